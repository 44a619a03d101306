import JvmDerived
import JvmDerived.Pilot.@@N@@Statement
import JvmDerived.Pilot.@@N@@Code
set_option linter.unusedVariables false
set_option linter.unusedSimpArgs false
@@BLOCK:NumsL.lean.txt@@
namespace Jvm.Pilot.@@N@@
open Jvm Jvm.ClassFile Sem Op Lib Jvm.Free Jvm.Stand Jvm.LawKit Jvm.RoadKit Bundle Jvm.Pilot.@@N@@.Jvm.D
/-! my own layer: what stands still in a walk (own_Cx, own_Mx), where it stands (own_Sx), what is left of it (own_Fin) -/
abbrev own_Cx : Type := Program × Launch × Env × Room × State × MethodId × Array Value × List Frame × Method × Code
def own_Sx (n0 : Nat) : own_Cx → State → Heap → Nat → Nat → Prop
  | (p, l, e, R, s, m, args, below, meth, c), T, h, cl, sl => ∃ locs, Stand p l e R s m args below meth c T locs cl sl ∧ Fr n0 locs ∧ T.heap = h ∧ n0 ≤ s.heap.size ∧ cl ≤ R.cells ∧ sl ≤ R.slots
def own_Mx (Z : State) (a0 : Array Value) : own_Cx → ByteArray → String → Nat → Option FieldType → Room → Prop
  | (p, l, e, R, s, m, args, below, meth, c), code, own, mx, ret, rm => p.tables.exec = Jvm.exec ∧ c.code = code ∧ c.maxLocals = mx ∧ s.vm.findClass own = some m.cls ∧ meth.sig.returnType = ret ∧ meth.locks = false ∧ Z.Warmed39 s.vm ∧ R = rm ∧ (∀ d ∈ tables_1, d.before a0 Z = true)
def own_Fin (n0 : Nat) : own_Cx → (Option Value → Heap → Prop) → State → Nat → Array Slot → List Value → Prop
  | (p, l, e, R, s, m, args, below, meth, c), P, T, pc, L, S => ∃ s₂ o, Steps p.tables e below (T.setTop (mkF m pc L S)) s₂ ∧ s₂.status = .running ∧ Ended s₂ below o ∧ ∃ v L', o = .returned v ∧ (P v s₂.heap ∧ Fr n0 L') ∧ FrameEnd s o s₂ L' R.cells R.slots
/-- a method's contract: from these arguments and this heap it returns, and P says what and with which heap -/
def own_Met (l : Launch) (Z : State) (n0 : Nat) (y : MethodName) (code : ByteArray) (mx : Nat) (ret : Option FieldType) (rm : Room) (args : Array Value) (h0 : Heap) (P : Option Value → Heap → Prop) : Prop :=
  ∀ ws : List Jvm.Cond, MetFree l y (head1 (Jvm.Cond.code y code mx ret :: ws) rm) (fun a U => a = args ∧ Z.Warmed39 U.vm ∧ U.heap = h0) (fun _ _ _ _ _ => True) (fun _ U o U' => ∃ v L, o = .returned v ∧ (P v U'.heap ∧ Fr n0 L) ∧ FrameEnd U o U' L rm.cells rm.slots)
section OwnLayer
variable {Z : State} {a0 : Array Value} {n0 : Nat} {K : own_Cx} {code : ByteArray} {own : String} {mx : Nat} {ret : Option FieldType} {rm : Room} {P : Option Value → Heap → Prop} {T : State} {h : Heap} {cl sl pc pc' : Nat} {L L' : Array Slot} {S rest : List Value}
theorem own_enter {l : Launch} {y : MethodName} {args : Array Value} {h0 : Heap} (hpl : plainFor y = true) (hw : ∀ d ∈ tables_1, d.before a0 Z = true) (hn : n0 ≤ h0.size) (he : ∀ m, entryFrame m args mx = mkF m 0 L [])
    (body : ∀ (K : own_Cx) (T : State), K.2.2.2.2.2.2.2.2.1.name = y.name → own_Mx Z a0 K code y.cls mx ret rm → own_Sx n0 K T h0 0 0 → own_Fin n0 K P T 0 L []) : own_Met l Z n0 y code mx ret rm args h0 P := by
  intro ws
  refine MetFree.of_bodySF hpl hisR ?_
  intro p e s m args' below meth c s₁ Bd hml0 hP hK
  obtain ⟨rfl, hZ, hh⟩ := hP
  have hown : s.vm.findClass y.cls = some m.cls := findClass_of_methodNamed Bd.named
  have X0 : Stand p l e rm s m args' below meth c s₁ [] 0 0 := Stand.of_body Bd
  have e0 : s₁.heap = h0 := by rw [← hh, Bd.state]; rfl
  obtain ⟨s2, o, st, r⟩ := body (p, l, e, rm, s, m, args', below, meth, c) s₁ (name_of_methodNamed Bd.named Bd.method).1 ⟨Bd.exec, Bd.bytes, hml0, hown, Bd.returns, Bd.notSynchronized, hZ, rfl, hw⟩ ⟨[], X0, Fr.nil n0, e0, by rw [hh]; exact hn, Nat.zero_le _, Nat.zero_le _⟩
  exact ⟨s2, o, castTop (he m) st, r⟩
theorem own_Sx.size (X : own_Sx n0 K T h cl sl) : n0 ≤ h.size := by
  obtain ⟨p, l, e, R, s, m, args, below, meth, c⟩ := K
  obtain ⟨locs, X, -, rfl, hn, -⟩ := X
  exact Nat.le_trans hn X.same.2.1
theorem own_ret {t : FieldType} (M : own_Mx Z a0 K code own mx (some t) rm) (X : own_Sx n0 K T h cl sl) {w w' : Value} {i : Instr} (hd : decode code pc = .ok (i, 1))
    (hst : ∀ {p : Program} {l : Launch} {e : Env} {R : Room} {s : State} {m : MethodId} {args : Array Value} {below : List Frame} {meth : Method} {c : Code} {locs : List Loc} {fs : List Frame}, Stand p l e R s m args below meth c T locs cl sl → p.tables.exec = Jvm.exec → meth.sig.returnType = some t → decode c.code pc = .ok (i, 1) → (∀ (f : JFrame) (acts : List Action), f.method = m → f.locked = none → f.entered = [] → (doReturn e (T.setTop f) acts (some w')).1 = T.setFrames fs) → Steps p.tables e below (T.setTop (mkF m pc L (w :: S))) (T.setFrames fs)) (hP : P (some w') h) : own_Fin n0 K P T pc L (w :: S) := by
  obtain ⟨p, l, e, R, s, m, args, below, meth, c⟩ := K
  obtain ⟨hx, hby, hml, hown, hret, hlk, hZ, rfl, hw⟩ := M
  obtain ⟨locs, X, hN, rfl, hn, hc, hs⟩ := X
  obtain ⟨fs, hr, hrun, hended, hW, hsame⟩ := X.leave (v := some w') (fun q => by rw [hret] at q; cases q) hlk
  exact ⟨_, _, hst X hx hret (hb hby hd) hr, hrun, hended, _, _, rfl, ⟨hP, hN⟩, ⟨_, rfl⟩, hW, hsame.mono hc hs⟩
theorem own_retI (M : own_Mx Z a0 K code own mx (some .int) rm) (X : own_Sx n0 K T h cl sl) {z : Int32} (hd : decode code pc = .ok (.ireturn, 1)) (hP : P (some (.int z)) h) : own_Fin n0 K P T pc L (.int z :: S) :=
  own_ret M X hd (fun X hx hret hd hr => retOut X hx hret rfl (Or.inl ⟨rfl, Or.inl rfl, z, rfl⟩) hd hr) hP
theorem own_retJ (M : own_Mx Z a0 K code own mx (some .long) rm) (X : own_Sx n0 K T h cl sl) {z : Int64} (hd : decode code pc = .ok (.lreturn, 1)) (hP : P (some (.long z)) h) : own_Fin n0 K P T pc L (.long z :: S) :=
  own_ret M X hd (fun X hx hret hd hr => retOut X hx hret rfl (Or.inr (Or.inl ⟨rfl, rfl, z, rfl⟩)) hd hr) hP
theorem own_retA {t : FieldType} (M : own_Mx Z a0 K code own mx (some t) rm) (X : own_Sx n0 K T h cl sl) {a : Addr} (ht : t.isReference = true) (hna : narrow t (.ref a) = .ref a) (hd : decode code pc = .ok (.areturn, 1)) (hP : P (some (.ref a)) h) : own_Fin n0 K P T pc L (.ref a :: S) :=
  own_ret M X hd (fun X hx hret hd hr => retOut X hx hret hna (Or.inr (Or.inr (Or.inr (Or.inr ⟨rfl, ht, rfl⟩)))) hd hr) hP
theorem own_retN {t : FieldType} (M : own_Mx Z a0 K code own mx (some t) rm) (X : own_Sx n0 K T h cl sl) {z z' : Int32} (ht : t = .boolean ∨ t = .byte ∨ t = .char ∨ t = .short) (hd : decode code pc = .ok (.ireturn, 1)) (hz : nar t z = z') (hP : P (some (.int z')) h) : own_Fin n0 K P T pc L (.int z :: S) :=
  own_ret M X hd (fun X hx hret hd hr => retN X hx hret ht hd (by rw [hz]; exact hr)) hP
theorem own_retV (M : own_Mx Z a0 K code own mx none rm) (X : own_Sx n0 K T h cl sl) (hd : decode code pc = .ok (.return_, 1)) (hP : P none h) : own_Fin n0 K P T pc L [] := by
  obtain ⟨p, l, e, R, s, m, args, below, meth, c⟩ := K
  obtain ⟨hx, hby, hml, hown, hret, hlk, hZ, rfl, hw⟩ := M
  obtain ⟨locs, X, hN, rfl, hn, hc, hs⟩ := X
  obtain ⟨fs, hr, hrun, hended, hW, hsame⟩ := X.leave (v := none) (fun _ => rfl) hlk
  exact ⟨_, _, X.returnOut hx hret (hb hby hd) hr, hrun, hended, _, _, rfl, ⟨hP, hN⟩, ⟨_, rfl⟩, hW, hsame.mono hc hs⟩
theorem own_iload (M : own_Mx Z a0 K code own mx ret rm) (X : own_Sx n0 K T h cl sl) {k : Nat} {v : Int32} (hd : decode code pc = .ok (.iload k, 2)) (hl : L[k]? = some (.val (.int v))) (hp : pc + 2 = pc') (hr : own_Fin n0 K P T pc' L (.int v :: S)) : own_Fin n0 K P T pc L (S) := by
  obtain ⟨p, l, e, R, s, m, args, below, meth, c⟩ := K
  obtain ⟨hx, hby, hml, hown, hret, hlk, hZ, rfl, hw⟩ := M
  obtain ⟨locs, X, hN, eT, hn, hcl, hsl⟩ := X
  obtain ⟨s2, o2, st, r⟩ := hr
  subst hp
  exact ⟨s2, o2, XS.iload X.here hx rfl (hb hby hd) hl st, r⟩
theorem own_iloadN (M : own_Mx Z a0 K code own mx ret rm) (X : own_Sx n0 K T h cl sl) {k : Fin 4} {v : Int32} (hd : decode code pc = .ok (.iload_n k, 1)) (hl : L[k.val]? = some (.val (.int v))) (hp : pc + 1 = pc') (hr : own_Fin n0 K P T pc' L (.int v :: S)) : own_Fin n0 K P T pc L (S) := by
  obtain ⟨p, l, e, R, s, m, args, below, meth, c⟩ := K
  obtain ⟨hx, hby, hml, hown, hret, hlk, hZ, rfl, hw⟩ := M
  obtain ⟨locs, X, hN, eT, hn, hcl, hsl⟩ := X
  obtain ⟨s2, o2, st, r⟩ := hr
  subst hp
  exact ⟨s2, o2, XS.iloadN X.here hx rfl (hb hby hd) hl st, r⟩
theorem own_istore (M : own_Mx Z a0 K code own mx ret rm) (X : own_Sx n0 K T h cl sl) {k : Nat} {v : Int32} (hd : decode code pc = .ok (.istore k, 2)) (hl : storeLocals L k (.int v) = some L') (hp : pc + 2 = pc') (hr : own_Fin n0 K P T pc' L' (S)) : own_Fin n0 K P T pc L (.int v :: S) := by
  obtain ⟨p, l, e, R, s, m, args, below, meth, c⟩ := K
  obtain ⟨hx, hby, hml, hown, hret, hlk, hZ, rfl, hw⟩ := M
  obtain ⟨locs, X, hN, eT, hn, hcl, hsl⟩ := X
  obtain ⟨s2, o2, st, r⟩ := hr
  subst hp
  exact ⟨s2, o2, XS.istore X.here hx rfl (hb hby hd) rfl hl st, r⟩
theorem own_istoreN (M : own_Mx Z a0 K code own mx ret rm) (X : own_Sx n0 K T h cl sl) {k : Fin 4} {v : Int32} (hd : decode code pc = .ok (.istore_n k, 1)) (hl : storeLocals L k.val (.int v) = some L') (hp : pc + 1 = pc') (hr : own_Fin n0 K P T pc' L' (S)) : own_Fin n0 K P T pc L (.int v :: S) := by
  obtain ⟨p, l, e, R, s, m, args, below, meth, c⟩ := K
  obtain ⟨hx, hby, hml, hown, hret, hlk, hZ, rfl, hw⟩ := M
  obtain ⟨locs, X, hN, eT, hn, hcl, hsl⟩ := X
  obtain ⟨s2, o2, st, r⟩ := hr
  subst hp
  exact ⟨s2, o2, XS.istoreN X.here hx rfl (hb hby hd) rfl hl st, r⟩
theorem own_lload (M : own_Mx Z a0 K code own mx ret rm) (X : own_Sx n0 K T h cl sl) {k : Nat} {v : Int64} (hd : decode code pc = .ok (.lload k, 2)) (hl : L[k]? = some (.val (.long v))) (hp : pc + 2 = pc') (hr : own_Fin n0 K P T pc' L (.long v :: S)) : own_Fin n0 K P T pc L (S) := by
  obtain ⟨p, l, e, R, s, m, args, below, meth, c⟩ := K
  obtain ⟨hx, hby, hml, hown, hret, hlk, hZ, rfl, hw⟩ := M
  obtain ⟨locs, X, hN, eT, hn, hcl, hsl⟩ := X
  obtain ⟨s2, o2, st, r⟩ := hr
  subst hp
  exact ⟨s2, o2, XS.lload X.here hx rfl (hb hby hd) hl st, r⟩
theorem own_lloadN (M : own_Mx Z a0 K code own mx ret rm) (X : own_Sx n0 K T h cl sl) {k : Fin 4} {v : Int64} (hd : decode code pc = .ok (.lload_n k, 1)) (hl : L[k.val]? = some (.val (.long v))) (hp : pc + 1 = pc') (hr : own_Fin n0 K P T pc' L (.long v :: S)) : own_Fin n0 K P T pc L (S) := by
  obtain ⟨p, l, e, R, s, m, args, below, meth, c⟩ := K
  obtain ⟨hx, hby, hml, hown, hret, hlk, hZ, rfl, hw⟩ := M
  obtain ⟨locs, X, hN, eT, hn, hcl, hsl⟩ := X
  obtain ⟨s2, o2, st, r⟩ := hr
  subst hp
  exact ⟨s2, o2, XS.lloadN X.here hx rfl (hb hby hd) hl st, r⟩
theorem own_lstore (M : own_Mx Z a0 K code own mx ret rm) (X : own_Sx n0 K T h cl sl) {k : Nat} {v : Int64} (hd : decode code pc = .ok (.lstore k, 2)) (hl : storeLocals L k (.long v) = some L') (hp : pc + 2 = pc') (hr : own_Fin n0 K P T pc' L' (S)) : own_Fin n0 K P T pc L (.long v :: S) := by
  obtain ⟨p, l, e, R, s, m, args, below, meth, c⟩ := K
  obtain ⟨hx, hby, hml, hown, hret, hlk, hZ, rfl, hw⟩ := M
  obtain ⟨locs, X, hN, eT, hn, hcl, hsl⟩ := X
  obtain ⟨s2, o2, st, r⟩ := hr
  subst hp
  exact ⟨s2, o2, XS.lstore X.here hx rfl (hb hby hd) rfl hl st, r⟩
theorem own_lstoreN (M : own_Mx Z a0 K code own mx ret rm) (X : own_Sx n0 K T h cl sl) {k : Fin 4} {v : Int64} (hd : decode code pc = .ok (.lstore_n k, 1)) (hl : storeLocals L k.val (.long v) = some L') (hp : pc + 1 = pc') (hr : own_Fin n0 K P T pc' L' (S)) : own_Fin n0 K P T pc L (.long v :: S) := by
  obtain ⟨p, l, e, R, s, m, args, below, meth, c⟩ := K
  obtain ⟨hx, hby, hml, hown, hret, hlk, hZ, rfl, hw⟩ := M
  obtain ⟨locs, X, hN, eT, hn, hcl, hsl⟩ := X
  obtain ⟨s2, o2, st, r⟩ := hr
  subst hp
  exact ⟨s2, o2, XS.lstoreN X.here hx rfl (hb hby hd) rfl hl st, r⟩
theorem own_aload (M : own_Mx Z a0 K code own mx ret rm) (X : own_Sx n0 K T h cl sl) {k : Nat} {v : Value} (hd : decode code pc = .ok (.aload k, 2)) (hl : L[k]? = some (.val v)) (hv : v.isRef = true) (hp : pc + 2 = pc') (hr : own_Fin n0 K P T pc' L (v :: S)) : own_Fin n0 K P T pc L (S) := by
  obtain ⟨p, l, e, R, s, m, args, below, meth, c⟩ := K
  obtain ⟨hx, hby, hml, hown, hret, hlk, hZ, rfl, hw⟩ := M
  obtain ⟨locs, X, hN, eT, hn, hcl, hsl⟩ := X
  obtain ⟨s2, o2, st, r⟩ := hr
  subst hp
  exact ⟨s2, o2, XS.aload X.here hx rfl (hb hby hd) hl hv st, r⟩
theorem own_aloadN (M : own_Mx Z a0 K code own mx ret rm) (X : own_Sx n0 K T h cl sl) {k : Fin 4} {v : Value} (hd : decode code pc = .ok (.aload_n k, 1)) (hl : L[k.val]? = some (.val v)) (hv : v.isRef = true) (hp : pc + 1 = pc') (hr : own_Fin n0 K P T pc' L (v :: S)) : own_Fin n0 K P T pc L (S) := by
  obtain ⟨p, l, e, R, s, m, args, below, meth, c⟩ := K
  obtain ⟨hx, hby, hml, hown, hret, hlk, hZ, rfl, hw⟩ := M
  obtain ⟨locs, X, hN, eT, hn, hcl, hsl⟩ := X
  obtain ⟨s2, o2, st, r⟩ := hr
  subst hp
  exact ⟨s2, o2, XS.aloadN X.here hx rfl (hb hby hd) hl hv st, r⟩
theorem own_astore (M : own_Mx Z a0 K code own mx ret rm) (X : own_Sx n0 K T h cl sl) {k : Nat} {v : Value} (hd : decode code pc = .ok (.astore k, 2)) (hv : v.isRef = true) (hl : storeLocals L k v = some L') (hp : pc + 2 = pc') (hr : own_Fin n0 K P T pc' L' (S)) : own_Fin n0 K P T pc L (v :: S) := by
  obtain ⟨p, l, e, R, s, m, args, below, meth, c⟩ := K
  obtain ⟨hx, hby, hml, hown, hret, hlk, hZ, rfl, hw⟩ := M
  obtain ⟨locs, X, hN, eT, hn, hcl, hsl⟩ := X
  obtain ⟨s2, o2, st, r⟩ := hr
  subst hp
  exact ⟨s2, o2, XS.astore X.here hx rfl (hb hby hd) rfl hv hl st, r⟩
theorem own_astoreN (M : own_Mx Z a0 K code own mx ret rm) (X : own_Sx n0 K T h cl sl) {k : Fin 4} {v : Value} (hd : decode code pc = .ok (.astore_n k, 1)) (hv : v.isRef = true) (hl : storeLocals L k.val v = some L') (hp : pc + 1 = pc') (hr : own_Fin n0 K P T pc' L' (S)) : own_Fin n0 K P T pc L (v :: S) := by
  obtain ⟨p, l, e, R, s, m, args, below, meth, c⟩ := K
  obtain ⟨hx, hby, hml, hown, hret, hlk, hZ, rfl, hw⟩ := M
  obtain ⟨locs, X, hN, eT, hn, hcl, hsl⟩ := X
  obtain ⟨s2, o2, st, r⟩ := hr
  subst hp
  exact ⟨s2, o2, XS.astoreN X.here hx rfl (hb hby hd) rfl hv hl st, r⟩
theorem own_iconst (M : own_Mx Z a0 K code own mx ret rm) (X : own_Sx n0 K T h cl sl) {i : Int} {v : Int32} (hd : decode code pc = .ok (.iconst i, 1)) (hv : Int32.ofInt i = v) (hp : pc + 1 = pc') (hr : own_Fin n0 K P T pc' L (.int v :: S)) : own_Fin n0 K P T pc L (S) := by
  obtain ⟨p, l, e, R, s, m, args, below, meth, c⟩ := K
  obtain ⟨hx, hby, hml, hown, hret, hlk, hZ, rfl, hw⟩ := M
  obtain ⟨locs, X, hN, eT, hn, hcl, hsl⟩ := X
  obtain ⟨s2, o2, st, r⟩ := hr
  subst hp
  subst hv
  exact ⟨s2, o2, XS.iconst X.here hx rfl (hb hby hd) st, r⟩
theorem own_bipush (M : own_Mx Z a0 K code own mx ret rm) (X : own_Sx n0 K T h cl sl) {i : Int} {v : Int32} (hd : decode code pc = .ok (.bipush i, 2)) (hv : (Int8.ofInt i).toInt32 = v) (hp : pc + 2 = pc') (hr : own_Fin n0 K P T pc' L (.int v :: S)) : own_Fin n0 K P T pc L (S) := by
  obtain ⟨p, l, e, R, s, m, args, below, meth, c⟩ := K
  obtain ⟨hx, hby, hml, hown, hret, hlk, hZ, rfl, hw⟩ := M
  obtain ⟨locs, X, hN, eT, hn, hcl, hsl⟩ := X
  obtain ⟨s2, o2, st, r⟩ := hr
  subst hp
  subst hv
  exact ⟨s2, o2, XS.bipush X.here hx rfl (hb hby hd) st, r⟩
theorem own_sipush (M : own_Mx Z a0 K code own mx ret rm) (X : own_Sx n0 K T h cl sl) {i : Int} {v : Int32} (hd : decode code pc = .ok (.sipush i, 3)) (hv : (Int16.ofInt i).toInt32 = v) (hp : pc + 3 = pc') (hr : own_Fin n0 K P T pc' L (.int v :: S)) : own_Fin n0 K P T pc L (S) := by
  obtain ⟨p, l, e, R, s, m, args, below, meth, c⟩ := K
  obtain ⟨hx, hby, hml, hown, hret, hlk, hZ, rfl, hw⟩ := M
  obtain ⟨locs, X, hN, eT, hn, hcl, hsl⟩ := X
  obtain ⟨s2, o2, st, r⟩ := hr
  subst hp
  subst hv
  exact ⟨s2, o2, XS.sipush X.here hx rfl (hb hby hd) st, r⟩
theorem own_lconst (M : own_Mx Z a0 K code own mx ret rm) (X : own_Sx n0 K T h cl sl) {i : Fin 2} {v : Int64} (hd : decode code pc = .ok (.lconst i, 1)) (hv : Int64.ofNat i = v) (hp : pc + 1 = pc') (hr : own_Fin n0 K P T pc' L (.long v :: S)) : own_Fin n0 K P T pc L (S) := by
  obtain ⟨p, l, e, R, s, m, args, below, meth, c⟩ := K
  obtain ⟨hx, hby, hml, hown, hret, hlk, hZ, rfl, hw⟩ := M
  obtain ⟨locs, X, hN, eT, hn, hcl, hsl⟩ := X
  obtain ⟨s2, o2, st, r⟩ := hr
  subst hp
  subst hv
  exact ⟨s2, o2, XS.lconst X.here hx rfl (hb hby hd) st, r⟩
theorem own_aconst_null (M : own_Mx Z a0 K code own mx ret rm) (X : own_Sx n0 K T h cl sl)  (hd : decode code pc = .ok (.aconst_null, 1)) (hp : pc + 1 = pc') (hr : own_Fin n0 K P T pc' L (.null :: S)) : own_Fin n0 K P T pc L (S) := by
  obtain ⟨p, l, e, R, s, m, args, below, meth, c⟩ := K
  obtain ⟨hx, hby, hml, hown, hret, hlk, hZ, rfl, hw⟩ := M
  obtain ⟨locs, X, hN, eT, hn, hcl, hsl⟩ := X
  obtain ⟨s2, o2, st, r⟩ := hr
  subst hp
  exact ⟨s2, o2, XS.aconstNull X.here hx rfl (hb hby hd) st, r⟩
theorem own_iadd (M : own_Mx Z a0 K code own mx ret rm) (X : own_Sx n0 K T h cl sl) {x y : Int32} (hd : decode code pc = .ok (.iadd, 1)) (hp : pc + 1 = pc') (hr : own_Fin n0 K P T pc' L (.int (x + y) :: S)) : own_Fin n0 K P T pc L (.int y :: .int x :: S) := by
  obtain ⟨p, l, e, R, s, m, args, below, meth, c⟩ := K
  obtain ⟨hx, hby, hml, hown, hret, hlk, hZ, rfl, hw⟩ := M
  obtain ⟨locs, X, hN, eT, hn, hcl, hsl⟩ := X
  obtain ⟨s2, o2, st, r⟩ := hr
  subst hp
  exact ⟨s2, o2, XS.iadd X.here hx rfl (hb hby hd) rfl st, r⟩
theorem own_ladd (M : own_Mx Z a0 K code own mx ret rm) (X : own_Sx n0 K T h cl sl) {x y : Int64} (hd : decode code pc = .ok (.ladd, 1)) (hp : pc + 1 = pc') (hr : own_Fin n0 K P T pc' L (.long (x + y) :: S)) : own_Fin n0 K P T pc L (.long y :: .long x :: S) := by
  obtain ⟨p, l, e, R, s, m, args, below, meth, c⟩ := K
  obtain ⟨hx, hby, hml, hown, hret, hlk, hZ, rfl, hw⟩ := M
  obtain ⟨locs, X, hN, eT, hn, hcl, hsl⟩ := X
  obtain ⟨s2, o2, st, r⟩ := hr
  subst hp
  exact ⟨s2, o2, XS.ladd X.here hx rfl (hb hby hd) rfl st, r⟩
theorem own_isub (M : own_Mx Z a0 K code own mx ret rm) (X : own_Sx n0 K T h cl sl) {x y : Int32} (hd : decode code pc = .ok (.isub, 1)) (hp : pc + 1 = pc') (hr : own_Fin n0 K P T pc' L (.int (x - y) :: S)) : own_Fin n0 K P T pc L (.int y :: .int x :: S) := by
  obtain ⟨p, l, e, R, s, m, args, below, meth, c⟩ := K
  obtain ⟨hx, hby, hml, hown, hret, hlk, hZ, rfl, hw⟩ := M
  obtain ⟨locs, X, hN, eT, hn, hcl, hsl⟩ := X
  obtain ⟨s2, o2, st, r⟩ := hr
  subst hp
  exact ⟨s2, o2, XS.isub X.here hx rfl (hb hby hd) rfl st, r⟩
theorem own_lsub (M : own_Mx Z a0 K code own mx ret rm) (X : own_Sx n0 K T h cl sl) {x y : Int64} (hd : decode code pc = .ok (.lsub, 1)) (hp : pc + 1 = pc') (hr : own_Fin n0 K P T pc' L (.long (x - y) :: S)) : own_Fin n0 K P T pc L (.long y :: .long x :: S) := by
  obtain ⟨p, l, e, R, s, m, args, below, meth, c⟩ := K
  obtain ⟨hx, hby, hml, hown, hret, hlk, hZ, rfl, hw⟩ := M
  obtain ⟨locs, X, hN, eT, hn, hcl, hsl⟩ := X
  obtain ⟨s2, o2, st, r⟩ := hr
  subst hp
  exact ⟨s2, o2, XS.lsub X.here hx rfl (hb hby hd) rfl st, r⟩
theorem own_imul (M : own_Mx Z a0 K code own mx ret rm) (X : own_Sx n0 K T h cl sl) {x y : Int32} (hd : decode code pc = .ok (.imul, 1)) (hp : pc + 1 = pc') (hr : own_Fin n0 K P T pc' L (.int (x * y) :: S)) : own_Fin n0 K P T pc L (.int y :: .int x :: S) := by
  obtain ⟨p, l, e, R, s, m, args, below, meth, c⟩ := K
  obtain ⟨hx, hby, hml, hown, hret, hlk, hZ, rfl, hw⟩ := M
  obtain ⟨locs, X, hN, eT, hn, hcl, hsl⟩ := X
  obtain ⟨s2, o2, st, r⟩ := hr
  subst hp
  exact ⟨s2, o2, XS.imul X.here hx rfl (hb hby hd) rfl st, r⟩
theorem own_lmul (M : own_Mx Z a0 K code own mx ret rm) (X : own_Sx n0 K T h cl sl) {x y : Int64} (hd : decode code pc = .ok (.lmul, 1)) (hp : pc + 1 = pc') (hr : own_Fin n0 K P T pc' L (.long (x * y) :: S)) : own_Fin n0 K P T pc L (.long y :: .long x :: S) := by
  obtain ⟨p, l, e, R, s, m, args, below, meth, c⟩ := K
  obtain ⟨hx, hby, hml, hown, hret, hlk, hZ, rfl, hw⟩ := M
  obtain ⟨locs, X, hN, eT, hn, hcl, hsl⟩ := X
  obtain ⟨s2, o2, st, r⟩ := hr
  subst hp
  exact ⟨s2, o2, XS.lmul X.here hx rfl (hb hby hd) rfl st, r⟩
theorem own_iand (M : own_Mx Z a0 K code own mx ret rm) (X : own_Sx n0 K T h cl sl) {x y : Int32} (hd : decode code pc = .ok (.iand, 1)) (hp : pc + 1 = pc') (hr : own_Fin n0 K P T pc' L (.int (x &&& y) :: S)) : own_Fin n0 K P T pc L (.int y :: .int x :: S) := by
  obtain ⟨p, l, e, R, s, m, args, below, meth, c⟩ := K
  obtain ⟨hx, hby, hml, hown, hret, hlk, hZ, rfl, hw⟩ := M
  obtain ⟨locs, X, hN, eT, hn, hcl, hsl⟩ := X
  obtain ⟨s2, o2, st, r⟩ := hr
  subst hp
  exact ⟨s2, o2, XS.iand X.here hx rfl (hb hby hd) rfl st, r⟩
theorem own_land (M : own_Mx Z a0 K code own mx ret rm) (X : own_Sx n0 K T h cl sl) {x y : Int64} (hd : decode code pc = .ok (.land, 1)) (hp : pc + 1 = pc') (hr : own_Fin n0 K P T pc' L (.long (x &&& y) :: S)) : own_Fin n0 K P T pc L (.long y :: .long x :: S) := by
  obtain ⟨p, l, e, R, s, m, args, below, meth, c⟩ := K
  obtain ⟨hx, hby, hml, hown, hret, hlk, hZ, rfl, hw⟩ := M
  obtain ⟨locs, X, hN, eT, hn, hcl, hsl⟩ := X
  obtain ⟨s2, o2, st, r⟩ := hr
  subst hp
  exact ⟨s2, o2, XS.land X.here hx rfl (hb hby hd) rfl st, r⟩
theorem own_ior (M : own_Mx Z a0 K code own mx ret rm) (X : own_Sx n0 K T h cl sl) {x y : Int32} (hd : decode code pc = .ok (.ior, 1)) (hp : pc + 1 = pc') (hr : own_Fin n0 K P T pc' L (.int (x ||| y) :: S)) : own_Fin n0 K P T pc L (.int y :: .int x :: S) := by
  obtain ⟨p, l, e, R, s, m, args, below, meth, c⟩ := K
  obtain ⟨hx, hby, hml, hown, hret, hlk, hZ, rfl, hw⟩ := M
  obtain ⟨locs, X, hN, eT, hn, hcl, hsl⟩ := X
  obtain ⟨s2, o2, st, r⟩ := hr
  subst hp
  exact ⟨s2, o2, XS.ior X.here hx rfl (hb hby hd) rfl st, r⟩
theorem own_lor (M : own_Mx Z a0 K code own mx ret rm) (X : own_Sx n0 K T h cl sl) {x y : Int64} (hd : decode code pc = .ok (.lor, 1)) (hp : pc + 1 = pc') (hr : own_Fin n0 K P T pc' L (.long (x ||| y) :: S)) : own_Fin n0 K P T pc L (.long y :: .long x :: S) := by
  obtain ⟨p, l, e, R, s, m, args, below, meth, c⟩ := K
  obtain ⟨hx, hby, hml, hown, hret, hlk, hZ, rfl, hw⟩ := M
  obtain ⟨locs, X, hN, eT, hn, hcl, hsl⟩ := X
  obtain ⟨s2, o2, st, r⟩ := hr
  subst hp
  exact ⟨s2, o2, XS.lor X.here hx rfl (hb hby hd) rfl st, r⟩
theorem own_ixor (M : own_Mx Z a0 K code own mx ret rm) (X : own_Sx n0 K T h cl sl) {x y : Int32} (hd : decode code pc = .ok (.ixor, 1)) (hp : pc + 1 = pc') (hr : own_Fin n0 K P T pc' L (.int (x ^^^ y) :: S)) : own_Fin n0 K P T pc L (.int y :: .int x :: S) := by
  obtain ⟨p, l, e, R, s, m, args, below, meth, c⟩ := K
  obtain ⟨hx, hby, hml, hown, hret, hlk, hZ, rfl, hw⟩ := M
  obtain ⟨locs, X, hN, eT, hn, hcl, hsl⟩ := X
  obtain ⟨s2, o2, st, r⟩ := hr
  subst hp
  exact ⟨s2, o2, XS.ixor X.here hx rfl (hb hby hd) rfl st, r⟩
theorem own_lxor (M : own_Mx Z a0 K code own mx ret rm) (X : own_Sx n0 K T h cl sl) {x y : Int64} (hd : decode code pc = .ok (.lxor, 1)) (hp : pc + 1 = pc') (hr : own_Fin n0 K P T pc' L (.long (x ^^^ y) :: S)) : own_Fin n0 K P T pc L (.long y :: .long x :: S) := by
  obtain ⟨p, l, e, R, s, m, args, below, meth, c⟩ := K
  obtain ⟨hx, hby, hml, hown, hret, hlk, hZ, rfl, hw⟩ := M
  obtain ⟨locs, X, hN, eT, hn, hcl, hsl⟩ := X
  obtain ⟨s2, o2, st, r⟩ := hr
  subst hp
  exact ⟨s2, o2, XS.lxor X.here hx rfl (hb hby hd) rfl st, r⟩
theorem own_ishl (M : own_Mx Z a0 K code own mx ret rm) (X : own_Sx n0 K T h cl sl) {x y : Int32} (hd : decode code pc = .ok (.ishl, 1)) (hp : pc + 1 = pc') (hr : own_Fin n0 K P T pc' L (.int (x <<< (y &&& 31)) :: S)) : own_Fin n0 K P T pc L (.int y :: .int x :: S) := by
  obtain ⟨p, l, e, R, s, m, args, below, meth, c⟩ := K
  obtain ⟨hx, hby, hml, hown, hret, hlk, hZ, rfl, hw⟩ := M
  obtain ⟨locs, X, hN, eT, hn, hcl, hsl⟩ := X
  obtain ⟨s2, o2, st, r⟩ := hr
  subst hp
  exact ⟨s2, o2, XS.ishl X.here hx rfl (hb hby hd) rfl st, r⟩
theorem own_ishr (M : own_Mx Z a0 K code own mx ret rm) (X : own_Sx n0 K T h cl sl) {x y : Int32} (hd : decode code pc = .ok (.ishr, 1)) (hp : pc + 1 = pc') (hr : own_Fin n0 K P T pc' L (.int (x >>> (y &&& 31)) :: S)) : own_Fin n0 K P T pc L (.int y :: .int x :: S) := by
  obtain ⟨p, l, e, R, s, m, args, below, meth, c⟩ := K
  obtain ⟨hx, hby, hml, hown, hret, hlk, hZ, rfl, hw⟩ := M
  obtain ⟨locs, X, hN, eT, hn, hcl, hsl⟩ := X
  obtain ⟨s2, o2, st, r⟩ := hr
  subst hp
  exact ⟨s2, o2, XS.ishr X.here hx rfl (hb hby hd) rfl st, r⟩
theorem own_iushr (M : own_Mx Z a0 K code own mx ret rm) (X : own_Sx n0 K T h cl sl) {x y : Int32} (hd : decode code pc = .ok (.iushr, 1)) (hp : pc + 1 = pc') (hr : own_Fin n0 K P T pc' L (.int ((x.toUInt32 >>> (y &&& 31).toUInt32).toInt32) :: S)) : own_Fin n0 K P T pc L (.int y :: .int x :: S) := by
  obtain ⟨p, l, e, R, s, m, args, below, meth, c⟩ := K
  obtain ⟨hx, hby, hml, hown, hret, hlk, hZ, rfl, hw⟩ := M
  obtain ⟨locs, X, hN, eT, hn, hcl, hsl⟩ := X
  obtain ⟨s2, o2, st, r⟩ := hr
  subst hp
  exact ⟨s2, o2, XS.iushr X.here hx rfl (hb hby hd) rfl st, r⟩
theorem own_lshl (M : own_Mx Z a0 K code own mx ret rm) (X : own_Sx n0 K T h cl sl) {x : Int64} {y : Int32} (hd : decode code pc = .ok (.lshl, 1)) (hp : pc + 1 = pc') (hr : own_Fin n0 K P T pc' L (.long (x <<< (y &&& 0x3f).toInt64) :: S)) : own_Fin n0 K P T pc L (.int y :: .long x :: S) := by
  obtain ⟨p, l, e, R, s, m, args, below, meth, c⟩ := K
  obtain ⟨hx, hby, hml, hown, hret, hlk, hZ, rfl, hw⟩ := M
  obtain ⟨locs, X, hN, eT, hn, hcl, hsl⟩ := X
  obtain ⟨s2, o2, st, r⟩ := hr
  subst hp
  exact ⟨s2, o2, XS.lshl X.here hx rfl (hb hby hd) rfl st, r⟩
theorem own_lshr (M : own_Mx Z a0 K code own mx ret rm) (X : own_Sx n0 K T h cl sl) {x : Int64} {y : Int32} (hd : decode code pc = .ok (.lshr, 1)) (hp : pc + 1 = pc') (hr : own_Fin n0 K P T pc' L (.long (x >>> (y &&& 0x3f).toInt64) :: S)) : own_Fin n0 K P T pc L (.int y :: .long x :: S) := by
  obtain ⟨p, l, e, R, s, m, args, below, meth, c⟩ := K
  obtain ⟨hx, hby, hml, hown, hret, hlk, hZ, rfl, hw⟩ := M
  obtain ⟨locs, X, hN, eT, hn, hcl, hsl⟩ := X
  obtain ⟨s2, o2, st, r⟩ := hr
  subst hp
  exact ⟨s2, o2, XS.lshr X.here hx rfl (hb hby hd) rfl st, r⟩
theorem own_lushr (M : own_Mx Z a0 K code own mx ret rm) (X : own_Sx n0 K T h cl sl) {x : Int64} {y : Int32} (hd : decode code pc = .ok (.lushr, 1)) (hp : pc + 1 = pc') (hr : own_Fin n0 K P T pc' L (.long ((x.toUInt64 >>> (y &&& 0x3f).toInt64.toUInt64).toInt64) :: S)) : own_Fin n0 K P T pc L (.int y :: .long x :: S) := by
  obtain ⟨p, l, e, R, s, m, args, below, meth, c⟩ := K
  obtain ⟨hx, hby, hml, hown, hret, hlk, hZ, rfl, hw⟩ := M
  obtain ⟨locs, X, hN, eT, hn, hcl, hsl⟩ := X
  obtain ⟨s2, o2, st, r⟩ := hr
  subst hp
  exact ⟨s2, o2, XS.lushr X.here hx rfl (hb hby hd) rfl st, r⟩
theorem own_idiv (M : own_Mx Z a0 K code own mx ret rm) (X : own_Sx n0 K T h cl sl) {x y : Int32} (hd : decode code pc = .ok (.idiv, 1)) (hy : y ≠ 0) (hp : pc + 1 = pc') (hr : own_Fin n0 K P T pc' L (.int (x / y) :: S)) : own_Fin n0 K P T pc L (.int y :: .int x :: S) := by
  obtain ⟨p, l, e, R, s, m, args, below, meth, c⟩ := K
  obtain ⟨hx, hby, hml, hown, hret, hlk, hZ, rfl, hw⟩ := M
  obtain ⟨locs, X, hN, eT, hn, hcl, hsl⟩ := X
  obtain ⟨s2, o2, st, r⟩ := hr
  subst hp
  exact ⟨s2, o2, XS.idiv X.here hx rfl (hb hby hd) rfl hy st, r⟩
theorem own_irem (M : own_Mx Z a0 K code own mx ret rm) (X : own_Sx n0 K T h cl sl) {x y : Int32} (hd : decode code pc = .ok (.irem, 1)) (hy : y ≠ 0) (hp : pc + 1 = pc') (hr : own_Fin n0 K P T pc' L (.int (x % y) :: S)) : own_Fin n0 K P T pc L (.int y :: .int x :: S) := by
  obtain ⟨p, l, e, R, s, m, args, below, meth, c⟩ := K
  obtain ⟨hx, hby, hml, hown, hret, hlk, hZ, rfl, hw⟩ := M
  obtain ⟨locs, X, hN, eT, hn, hcl, hsl⟩ := X
  obtain ⟨s2, o2, st, r⟩ := hr
  subst hp
  exact ⟨s2, o2, iremM X hx rfl (hb hby hd) rfl hy st, r⟩
theorem own_ldiv (M : own_Mx Z a0 K code own mx ret rm) (X : own_Sx n0 K T h cl sl) {x y : Int64} (hd : decode code pc = .ok (.ldiv, 1)) (hy : y ≠ 0) (hp : pc + 1 = pc') (hr : own_Fin n0 K P T pc' L (.long (x / y) :: S)) : own_Fin n0 K P T pc L (.long y :: .long x :: S) := by
  obtain ⟨p, l, e, R, s, m, args, below, meth, c⟩ := K
  obtain ⟨hx, hby, hml, hown, hret, hlk, hZ, rfl, hw⟩ := M
  obtain ⟨locs, X, hN, eT, hn, hcl, hsl⟩ := X
  obtain ⟨s2, o2, st, r⟩ := hr
  subst hp
  exact ⟨s2, o2, XS.ldiv X.here hx rfl (hb hby hd) rfl hy st, r⟩
theorem own_lrem (M : own_Mx Z a0 K code own mx ret rm) (X : own_Sx n0 K T h cl sl) {x y : Int64} (hd : decode code pc = .ok (.lrem, 1)) (hy : y ≠ 0) (hp : pc + 1 = pc') (hr : own_Fin n0 K P T pc' L (.long (x - (x / y) * y) :: S)) : own_Fin n0 K P T pc L (.long y :: .long x :: S) := by
  obtain ⟨p, l, e, R, s, m, args, below, meth, c⟩ := K
  obtain ⟨hx, hby, hml, hown, hret, hlk, hZ, rfl, hw⟩ := M
  obtain ⟨locs, X, hN, eT, hn, hcl, hsl⟩ := X
  obtain ⟨s2, o2, st, r⟩ := hr
  subst hp
  exact ⟨s2, o2, XS.lrem X.here hx rfl (hb hby hd) rfl hy st, r⟩
theorem own_ineg (M : own_Mx Z a0 K code own mx ret rm) (X : own_Sx n0 K T h cl sl) {x : Int32} (hd : decode code pc = .ok (.ineg, 1)) (hp : pc + 1 = pc') (hr : own_Fin n0 K P T pc' L (.int (-x) :: S)) : own_Fin n0 K P T pc L (.int x :: S) := by
  obtain ⟨p, l, e, R, s, m, args, below, meth, c⟩ := K
  obtain ⟨hx, hby, hml, hown, hret, hlk, hZ, rfl, hw⟩ := M
  obtain ⟨locs, X, hN, eT, hn, hcl, hsl⟩ := X
  obtain ⟨s2, o2, st, r⟩ := hr
  subst hp
  exact ⟨s2, o2, XS.ineg X.here hx rfl (hb hby hd) rfl st, r⟩
theorem own_lneg (M : own_Mx Z a0 K code own mx ret rm) (X : own_Sx n0 K T h cl sl) {x : Int64} (hd : decode code pc = .ok (.lneg, 1)) (hp : pc + 1 = pc') (hr : own_Fin n0 K P T pc' L (.long (-x) :: S)) : own_Fin n0 K P T pc L (.long x :: S) := by
  obtain ⟨p, l, e, R, s, m, args, below, meth, c⟩ := K
  obtain ⟨hx, hby, hml, hown, hret, hlk, hZ, rfl, hw⟩ := M
  obtain ⟨locs, X, hN, eT, hn, hcl, hsl⟩ := X
  obtain ⟨s2, o2, st, r⟩ := hr
  subst hp
  exact ⟨s2, o2, XS.lneg X.here hx rfl (hb hby hd) rfl st, r⟩
theorem own_i2l (M : own_Mx Z a0 K code own mx ret rm) (X : own_Sx n0 K T h cl sl) {x : Int32} (hd : decode code pc = .ok (.i2l, 1)) (hp : pc + 1 = pc') (hr : own_Fin n0 K P T pc' L (.long (x.toInt64) :: S)) : own_Fin n0 K P T pc L (.int x :: S) := by
  obtain ⟨p, l, e, R, s, m, args, below, meth, c⟩ := K
  obtain ⟨hx, hby, hml, hown, hret, hlk, hZ, rfl, hw⟩ := M
  obtain ⟨locs, X, hN, eT, hn, hcl, hsl⟩ := X
  obtain ⟨s2, o2, st, r⟩ := hr
  subst hp
  exact ⟨s2, o2, XS.i2l X.here hx rfl (hb hby hd) rfl st, r⟩
theorem own_l2i (M : own_Mx Z a0 K code own mx ret rm) (X : own_Sx n0 K T h cl sl) {x : Int64} (hd : decode code pc = .ok (.l2i, 1)) (hp : pc + 1 = pc') (hr : own_Fin n0 K P T pc' L (.int (x.toInt32) :: S)) : own_Fin n0 K P T pc L (.long x :: S) := by
  obtain ⟨p, l, e, R, s, m, args, below, meth, c⟩ := K
  obtain ⟨hx, hby, hml, hown, hret, hlk, hZ, rfl, hw⟩ := M
  obtain ⟨locs, X, hN, eT, hn, hcl, hsl⟩ := X
  obtain ⟨s2, o2, st, r⟩ := hr
  subst hp
  exact ⟨s2, o2, XS.l2i X.here hx rfl (hb hby hd) rfl st, r⟩
theorem own_i2b (M : own_Mx Z a0 K code own mx ret rm) (X : own_Sx n0 K T h cl sl) {x : Int32} (hd : decode code pc = .ok (.i2b, 1)) (hp : pc + 1 = pc') (hr : own_Fin n0 K P T pc' L (.int (x.toInt8.toInt32) :: S)) : own_Fin n0 K P T pc L (.int x :: S) := by
  obtain ⟨p, l, e, R, s, m, args, below, meth, c⟩ := K
  obtain ⟨hx, hby, hml, hown, hret, hlk, hZ, rfl, hw⟩ := M
  obtain ⟨locs, X, hN, eT, hn, hcl, hsl⟩ := X
  obtain ⟨s2, o2, st, r⟩ := hr
  subst hp
  exact ⟨s2, o2, XS.i2b X.here hx rfl (hb hby hd) rfl st, r⟩
theorem own_i2s (M : own_Mx Z a0 K code own mx ret rm) (X : own_Sx n0 K T h cl sl) {x : Int32} (hd : decode code pc = .ok (.i2s, 1)) (hp : pc + 1 = pc') (hr : own_Fin n0 K P T pc' L (.int (x.toInt16.toInt32) :: S)) : own_Fin n0 K P T pc L (.int x :: S) := by
  obtain ⟨p, l, e, R, s, m, args, below, meth, c⟩ := K
  obtain ⟨hx, hby, hml, hown, hret, hlk, hZ, rfl, hw⟩ := M
  obtain ⟨locs, X, hN, eT, hn, hcl, hsl⟩ := X
  obtain ⟨s2, o2, st, r⟩ := hr
  subst hp
  exact ⟨s2, o2, XS.i2s X.here hx rfl (hb hby hd) rfl st, r⟩
theorem own_i2c (M : own_Mx Z a0 K code own mx ret rm) (X : own_Sx n0 K T h cl sl) {x : Int32} (hd : decode code pc = .ok (.i2c, 1)) (hp : pc + 1 = pc') (hr : own_Fin n0 K P T pc' L (.int (x.toUInt32.toUInt16.toUInt32.toInt32) :: S)) : own_Fin n0 K P T pc L (.int x :: S) := by
  obtain ⟨p, l, e, R, s, m, args, below, meth, c⟩ := K
  obtain ⟨hx, hby, hml, hown, hret, hlk, hZ, rfl, hw⟩ := M
  obtain ⟨locs, X, hN, eT, hn, hcl, hsl⟩ := X
  obtain ⟨s2, o2, st, r⟩ := hr
  subst hp
  exact ⟨s2, o2, XS.i2c X.here hx rfl (hb hby hd) rfl st, r⟩
theorem own_iinc (M : own_Mx Z a0 K code own mx ret rm) (X : own_Sx n0 K T h cl sl) {k : Nat} {i : Int} {x v : Int32} (hd : decode code pc = .ok (.iinc k i, 3)) (hl : L[k]? = some (.val (.int x))) (hv : x + Int32.ofInt i = v) (hl' : storeLocals L k (.int v) = some L') (hp : pc + 3 = pc') (hr : own_Fin n0 K P T pc' L' (S)) : own_Fin n0 K P T pc L (S) := by
  obtain ⟨p, l, e, R, s, m, args, below, meth, c⟩ := K
  obtain ⟨hx, hby, hml, hown, hret, hlk, hZ, rfl, hw⟩ := M
  obtain ⟨locs, X, hN, eT, hn, hcl, hsl⟩ := X
  obtain ⟨s2, o2, st, r⟩ := hr
  subst hp
  subst hv
  exact ⟨s2, o2, XS.iinc X.here hx rfl (hb hby hd) hl hl' st, r⟩
theorem own_dup (M : own_Mx Z a0 K code own mx ret rm) (X : own_Sx n0 K T h cl sl) {v : Value} (hd : decode code pc = .ok (.dup, 1)) (hc : v.category = 1) (hp : pc + 1 = pc') (hr : own_Fin n0 K P T pc' L (v :: v :: S)) : own_Fin n0 K P T pc L (v :: S) := by
  obtain ⟨p, l, e, R, s, m, args, below, meth, c⟩ := K
  obtain ⟨hx, hby, hml, hown, hret, hlk, hZ, rfl, hw⟩ := M
  obtain ⟨locs, X, hN, eT, hn, hcl, hsl⟩ := X
  obtain ⟨s2, o2, st, r⟩ := hr
  subst hp
  exact ⟨s2, o2, XS.dup X.here hx rfl (hb hby hd) rfl hc st, r⟩
theorem own_pop (M : own_Mx Z a0 K code own mx ret rm) (X : own_Sx n0 K T h cl sl) {v : Value} (hd : decode code pc = .ok (.pop, 1)) (hc : v.category = 1) (hp : pc + 1 = pc') (hr : own_Fin n0 K P T pc' L (S)) : own_Fin n0 K P T pc L (v :: S) := by
  obtain ⟨p, l, e, R, s, m, args, below, meth, c⟩ := K
  obtain ⟨hx, hby, hml, hown, hret, hlk, hZ, rfl, hw⟩ := M
  obtain ⟨locs, X, hN, eT, hn, hcl, hsl⟩ := X
  obtain ⟨s2, o2, st, r⟩ := hr
  subst hp
  exact ⟨s2, o2, XS.pop X.here hx rfl (hb hby hd) rfl hc st, r⟩
theorem own_dup_x1 (M : own_Mx Z a0 K code own mx ret rm) (X : own_Sx n0 K T h cl sl) {v w : Value} (hd : decode code pc = .ok (.dup_x1, 1)) (hc : v.category = 1) (hc' : w.category = 1) (hp : pc + 1 = pc') (hr : own_Fin n0 K P T pc' L (v :: w :: v :: S)) : own_Fin n0 K P T pc L (v :: w :: S) := by
  obtain ⟨p, l, e, R, s, m, args, below, meth, c⟩ := K
  obtain ⟨hx, hby, hml, hown, hret, hlk, hZ, rfl, hw⟩ := M
  obtain ⟨locs, X, hN, eT, hn, hcl, hsl⟩ := X
  obtain ⟨s2, o2, st, r⟩ := hr
  subst hp
  exact ⟨s2, o2, XS.dupX1 X.here hx rfl (hb hby hd) rfl hc hc' st, r⟩
theorem own_dup2 (M : own_Mx Z a0 K code own mx ret rm) (X : own_Sx n0 K T h cl sl) {v w : Value} (hd : decode code pc = .ok (.dup2, 1)) (hc : v.category = 1) (hc' : w.category = 1) (hp : pc + 1 = pc') (hr : own_Fin n0 K P T pc' L (v :: w :: v :: w :: S)) : own_Fin n0 K P T pc L (v :: w :: S) := by
  obtain ⟨p, l, e, R, s, m, args, below, meth, c⟩ := K
  obtain ⟨hx, hby, hml, hown, hret, hlk, hZ, rfl, hw⟩ := M
  obtain ⟨locs, X, hN, eT, hn, hcl, hsl⟩ := X
  obtain ⟨s2, o2, st, r⟩ := hr
  subst hp
  exact ⟨s2, o2, XT.dup2 X.here hx rfl (hb hby hd) rfl hc hc' st, r⟩
theorem own_goto (M : own_Mx Z a0 K code own mx ret rm) (X : own_Sx n0 K T h cl sl) {o : Int} (hd : decode code pc = .ok (.goto o, 3)) (ho : 0 ≤ (pc : Int) + o) (hp : ((pc : Int) + o).toNat = pc') (hr : own_Fin n0 K P T pc' L S) : own_Fin n0 K P T pc L S := by
  obtain ⟨p, l, e, R, s, m, args, below, meth, c⟩ := K
  obtain ⟨hx, hby, hml, hown, hret, hlk, hZ, rfl, hw⟩ := M
  obtain ⟨locs, X, hN, eT, hn, hcl, hsl⟩ := X
  obtain ⟨s2, o2, st, r⟩ := hr
  exact ⟨s2, o2, XS.goto X.here hx rfl (pc0 := pc) rfl (hb hby hd) ho hp st, r⟩
theorem own_ldc (M : own_Mx Z a0 K code own mx ret rm) (X : own_Sx n0 K T h cl sl) {k : Nat} {v : Int32} (w : (Jvm.Cond.constant own k v).before a0 Z = true) (hd : decode code pc = .ok (.ldc k, 2)) (hp : pc + 2 = pc') (hr : own_Fin n0 K P T pc' L (.int v :: S)) : own_Fin n0 K P T pc L (S) := by
  obtain ⟨p, l, e, R, s, m, args, below, meth, c⟩ := K
  obtain ⟨hx, hby, hml, hown, hret, hlk, hZ, rfl, hw⟩ := M
  obtain ⟨locs, X, hN, eT, hn, hcl, hsl⟩ := X
  obtain ⟨s2, o2, st, r⟩ := hr
  subst hp
  exact ⟨s2, o2, X.ldcInt hx hown (mvT hZ w) (g := mkF m pc L S) rfl (hb hby hd) _ st, r⟩
theorem own_ldc_w (M : own_Mx Z a0 K code own mx ret rm) (X : own_Sx n0 K T h cl sl) {k : Nat} {v : Int32} (w : (Jvm.Cond.constant own k v).before a0 Z = true) (hd : decode code pc = .ok (.ldc_w k, 3)) (hp : pc + 3 = pc') (hr : own_Fin n0 K P T pc' L (.int v :: S)) : own_Fin n0 K P T pc L (S) := by
  obtain ⟨p, l, e, R, s, m, args, below, meth, c⟩ := K
  obtain ⟨hx, hby, hml, hown, hret, hlk, hZ, rfl, hw⟩ := M
  obtain ⟨locs, X, hN, eT, hn, hcl, hsl⟩ := X
  obtain ⟨s2, o2, st, r⟩ := hr
  subst hp
  exact ⟨s2, o2, X.ldcwInt hx hown (mvT hZ w) (g := mkF m pc L S) rfl (hb hby hd) _ st, r⟩
theorem own_ldc2_w (M : own_Mx Z a0 K code own mx ret rm) (X : own_Sx n0 K T h cl sl) {k : Nat} {v : Int64} (w : (Jvm.Cond.constantLong own k v).before a0 Z = true) (hd : decode code pc = .ok (.ldc2_w k, 3)) (hp : pc + 3 = pc') (hr : own_Fin n0 K P T pc' L (.long v :: S)) : own_Fin n0 K P T pc L (S) := by
  obtain ⟨p, l, e, R, s, m, args, below, meth, c⟩ := K
  obtain ⟨hx, hby, hml, hown, hret, hlk, hZ, rfl, hw⟩ := M
  obtain ⟨locs, X, hN, eT, hn, hcl, hsl⟩ := X
  obtain ⟨s2, o2, st, r⟩ := hr
  subst hp
  exact ⟨s2, o2, X.ldc2Long hx hown (mvT hZ w) (g := mkF m pc L S) rfl (hb hby hd) _ st, r⟩
theorem own_icmp_lt (M : own_Mx Z a0 K code own mx ret rm) (X : own_Sx n0 K T h cl sl) {x y : Int32} {o : Int} {pcY pcN : Nat} (hd : decode code pc = .ok (.if_icmp .lt o, 3)) (ho : 0 ≤ (pc : Int) + o) (hY : ((pc : Int) + o).toNat = pcY) (hpN : pc + 3 = pcN) (yes : x < y → own_Fin n0 K P T pcY L S) (no : ¬ x < y → own_Fin n0 K P T pcN L S) : own_Fin n0 K P T pc L (.int y :: .int x :: S) := by
  obtain ⟨p, l, e, R, s, m, args, below, meth, c⟩ := K
  obtain ⟨hx, hby, hml, hown, hret, hlk, hZ, rfl, hw⟩ := M
  obtain ⟨locs, X, hN, eT, hn, hcl, hsl⟩ := X
  subst hpN
  by_cases q : x < y
  · obtain ⟨s2, o2, st, r⟩ := yes q
    exact ⟨s2, o2, XS.icmpYes X.here hx rfl (pc0 := pc) rfl (hb hby hd) rfl (tlt q).1 ho hY st, r⟩
  · obtain ⟨s2, o2, st, r⟩ := no q
    exact ⟨s2, o2, XS.icmpNo X.here hx rfl (hb hby hd) rfl (flt q).1 st, r⟩
theorem own_if_lt (M : own_Mx Z a0 K code own mx ret rm) (X : own_Sx n0 K T h cl sl) {x : Int32} {o : Int} {pcY pcN : Nat} (hd : decode code pc = .ok (.ifCond .lt o, 3)) (ho : 0 ≤ (pc : Int) + o) (hY : ((pc : Int) + o).toNat = pcY) (hpN : pc + 3 = pcN) (yes : x < 0 → own_Fin n0 K P T pcY L S) (no : ¬ x < 0 → own_Fin n0 K P T pcN L S) : own_Fin n0 K P T pc L (.int x :: S) := by
  obtain ⟨p, l, e, R, s, m, args, below, meth, c⟩ := K
  obtain ⟨hx, hby, hml, hown, hret, hlk, hZ, rfl, hw⟩ := M
  obtain ⟨locs, X, hN, eT, hn, hcl, hsl⟩ := X
  subst hpN
  by_cases q : x < 0
  · obtain ⟨s2, o2, st, r⟩ := yes q
    exact ⟨s2, o2, XS.ifYes X.here hx rfl (pc0 := pc) rfl (hb hby hd) rfl ((if0 _ _).trans (tlt q).1) ho hY st, r⟩
  · obtain ⟨s2, o2, st, r⟩ := no q
    exact ⟨s2, o2, XS.ifNo X.here hx rfl (hb hby hd) rfl ((if0 _ _).trans (flt q).1) st, r⟩
theorem own_lcmp_lt (M : own_Mx Z a0 K code own mx ret rm) (X : own_Sx n0 K T h cl sl) {x y : Int64} {pc1 : Nat} {o : Int} {pcY pcN : Nat} (hdc : decode code pc = .ok (.lcmp, 1)) (h1 : pc + 1 = pc1) (hd : decode code pc1 = .ok (.ifCond .lt o, 3)) (ho : 0 ≤ (pc1 : Int) + o) (hY : ((pc1 : Int) + o).toNat = pcY) (hpN : pc1 + 3 = pcN) (yes : x < y → own_Fin n0 K P T pcY L S) (no : ¬ x < y → own_Fin n0 K P T pcN L S) : own_Fin n0 K P T pc L (.long y :: .long x :: S) := by
  obtain ⟨p, l, e, R, s, m, args, below, meth, c⟩ := K
  obtain ⟨hx, hby, hml, hown, hret, hlk, hZ, rfl, hw⟩ := M
  obtain ⟨locs, X, hN, eT, hn, hcl, hsl⟩ := X
  subst hpN h1
  by_cases q : x < y
  · obtain ⟨s2, o2, st, r⟩ := yes q
    exact ⟨s2, o2, XS.lcmp X.here hx rfl (hb hby hdc) rfl (XS.ifYes (g := mkF m (pc + 1) L (.int (lcmpW x y) :: S)) X.here hx rfl (pc0 := pc + 1) rfl (hb hby hd) rfl ((if0 _ _).trans (tlt ((lw_lt x y).mpr q)).1) ho hY st), r⟩
  · obtain ⟨s2, o2, st, r⟩ := no q
    exact ⟨s2, o2, XS.lcmp X.here hx rfl (hb hby hdc) rfl (XS.ifNo (g := mkF m (pc + 1) L (.int (lcmpW x y) :: S)) X.here hx rfl (hb hby hd) rfl ((if0 _ _).trans (flt (fun z => q ((lw_lt x y).mp z))).1) st), r⟩
theorem own_icmp_ge (M : own_Mx Z a0 K code own mx ret rm) (X : own_Sx n0 K T h cl sl) {x y : Int32} {o : Int} {pcY pcN : Nat} (hd : decode code pc = .ok (.if_icmp .ge o, 3)) (ho : 0 ≤ (pc : Int) + o) (hY : ((pc : Int) + o).toNat = pcY) (hpN : pc + 3 = pcN) (yes : ¬ x < y → own_Fin n0 K P T pcY L S) (no : x < y → own_Fin n0 K P T pcN L S) : own_Fin n0 K P T pc L (.int y :: .int x :: S) := by
  obtain ⟨p, l, e, R, s, m, args, below, meth, c⟩ := K
  obtain ⟨hx, hby, hml, hown, hret, hlk, hZ, rfl, hw⟩ := M
  obtain ⟨locs, X, hN, eT, hn, hcl, hsl⟩ := X
  subst hpN
  by_cases q : x < y
  · obtain ⟨s2, o2, st, r⟩ := no q
    exact ⟨s2, o2, XS.icmpNo X.here hx rfl (hb hby hd) rfl (tlt q).2.1 st, r⟩
  · obtain ⟨s2, o2, st, r⟩ := yes q
    exact ⟨s2, o2, XS.icmpYes X.here hx rfl (pc0 := pc) rfl (hb hby hd) rfl (flt q).2.1 ho hY st, r⟩
theorem own_if_ge (M : own_Mx Z a0 K code own mx ret rm) (X : own_Sx n0 K T h cl sl) {x : Int32} {o : Int} {pcY pcN : Nat} (hd : decode code pc = .ok (.ifCond .ge o, 3)) (ho : 0 ≤ (pc : Int) + o) (hY : ((pc : Int) + o).toNat = pcY) (hpN : pc + 3 = pcN) (yes : ¬ x < 0 → own_Fin n0 K P T pcY L S) (no : x < 0 → own_Fin n0 K P T pcN L S) : own_Fin n0 K P T pc L (.int x :: S) := by
  obtain ⟨p, l, e, R, s, m, args, below, meth, c⟩ := K
  obtain ⟨hx, hby, hml, hown, hret, hlk, hZ, rfl, hw⟩ := M
  obtain ⟨locs, X, hN, eT, hn, hcl, hsl⟩ := X
  subst hpN
  by_cases q : x < 0
  · obtain ⟨s2, o2, st, r⟩ := no q
    exact ⟨s2, o2, XS.ifNo X.here hx rfl (hb hby hd) rfl ((if0 _ _).trans (tlt q).2.1) st, r⟩
  · obtain ⟨s2, o2, st, r⟩ := yes q
    exact ⟨s2, o2, XS.ifYes X.here hx rfl (pc0 := pc) rfl (hb hby hd) rfl ((if0 _ _).trans (flt q).2.1) ho hY st, r⟩
theorem own_lcmp_ge (M : own_Mx Z a0 K code own mx ret rm) (X : own_Sx n0 K T h cl sl) {x y : Int64} {pc1 : Nat} {o : Int} {pcY pcN : Nat} (hdc : decode code pc = .ok (.lcmp, 1)) (h1 : pc + 1 = pc1) (hd : decode code pc1 = .ok (.ifCond .ge o, 3)) (ho : 0 ≤ (pc1 : Int) + o) (hY : ((pc1 : Int) + o).toNat = pcY) (hpN : pc1 + 3 = pcN) (yes : ¬ x < y → own_Fin n0 K P T pcY L S) (no : x < y → own_Fin n0 K P T pcN L S) : own_Fin n0 K P T pc L (.long y :: .long x :: S) := by
  obtain ⟨p, l, e, R, s, m, args, below, meth, c⟩ := K
  obtain ⟨hx, hby, hml, hown, hret, hlk, hZ, rfl, hw⟩ := M
  obtain ⟨locs, X, hN, eT, hn, hcl, hsl⟩ := X
  subst hpN h1
  by_cases q : x < y
  · obtain ⟨s2, o2, st, r⟩ := no q
    exact ⟨s2, o2, XS.lcmp X.here hx rfl (hb hby hdc) rfl (XS.ifNo (g := mkF m (pc + 1) L (.int (lcmpW x y) :: S)) X.here hx rfl (hb hby hd) rfl ((if0 _ _).trans (tlt ((lw_lt x y).mpr q)).2.1) st), r⟩
  · obtain ⟨s2, o2, st, r⟩ := yes q
    exact ⟨s2, o2, XS.lcmp X.here hx rfl (hb hby hdc) rfl (XS.ifYes (g := mkF m (pc + 1) L (.int (lcmpW x y) :: S)) X.here hx rfl (pc0 := pc + 1) rfl (hb hby hd) rfl ((if0 _ _).trans (flt (fun z => q ((lw_lt x y).mp z))).2.1) ho hY st), r⟩
theorem own_icmp_gt (M : own_Mx Z a0 K code own mx ret rm) (X : own_Sx n0 K T h cl sl) {x y : Int32} {o : Int} {pcY pcN : Nat} (hd : decode code pc = .ok (.if_icmp .gt o, 3)) (ho : 0 ≤ (pc : Int) + o) (hY : ((pc : Int) + o).toNat = pcY) (hpN : pc + 3 = pcN) (yes : y < x → own_Fin n0 K P T pcY L S) (no : ¬ y < x → own_Fin n0 K P T pcN L S) : own_Fin n0 K P T pc L (.int y :: .int x :: S) := by
  obtain ⟨p, l, e, R, s, m, args, below, meth, c⟩ := K
  obtain ⟨hx, hby, hml, hown, hret, hlk, hZ, rfl, hw⟩ := M
  obtain ⟨locs, X, hN, eT, hn, hcl, hsl⟩ := X
  subst hpN
  by_cases q : y < x
  · obtain ⟨s2, o2, st, r⟩ := yes q
    exact ⟨s2, o2, XS.icmpYes X.here hx rfl (pc0 := pc) rfl (hb hby hd) rfl (tlt q).2.2.1 ho hY st, r⟩
  · obtain ⟨s2, o2, st, r⟩ := no q
    exact ⟨s2, o2, XS.icmpNo X.here hx rfl (hb hby hd) rfl (flt q).2.2.1 st, r⟩
theorem own_if_gt (M : own_Mx Z a0 K code own mx ret rm) (X : own_Sx n0 K T h cl sl) {x : Int32} {o : Int} {pcY pcN : Nat} (hd : decode code pc = .ok (.ifCond .gt o, 3)) (ho : 0 ≤ (pc : Int) + o) (hY : ((pc : Int) + o).toNat = pcY) (hpN : pc + 3 = pcN) (yes : 0 < x → own_Fin n0 K P T pcY L S) (no : ¬ 0 < x → own_Fin n0 K P T pcN L S) : own_Fin n0 K P T pc L (.int x :: S) := by
  obtain ⟨p, l, e, R, s, m, args, below, meth, c⟩ := K
  obtain ⟨hx, hby, hml, hown, hret, hlk, hZ, rfl, hw⟩ := M
  obtain ⟨locs, X, hN, eT, hn, hcl, hsl⟩ := X
  subst hpN
  by_cases q : 0 < x
  · obtain ⟨s2, o2, st, r⟩ := yes q
    exact ⟨s2, o2, XS.ifYes X.here hx rfl (pc0 := pc) rfl (hb hby hd) rfl ((if0 _ _).trans (tlt q).2.2.1) ho hY st, r⟩
  · obtain ⟨s2, o2, st, r⟩ := no q
    exact ⟨s2, o2, XS.ifNo X.here hx rfl (hb hby hd) rfl ((if0 _ _).trans (flt q).2.2.1) st, r⟩
theorem own_lcmp_gt (M : own_Mx Z a0 K code own mx ret rm) (X : own_Sx n0 K T h cl sl) {x y : Int64} {pc1 : Nat} {o : Int} {pcY pcN : Nat} (hdc : decode code pc = .ok (.lcmp, 1)) (h1 : pc + 1 = pc1) (hd : decode code pc1 = .ok (.ifCond .gt o, 3)) (ho : 0 ≤ (pc1 : Int) + o) (hY : ((pc1 : Int) + o).toNat = pcY) (hpN : pc1 + 3 = pcN) (yes : y < x → own_Fin n0 K P T pcY L S) (no : ¬ y < x → own_Fin n0 K P T pcN L S) : own_Fin n0 K P T pc L (.long y :: .long x :: S) := by
  obtain ⟨p, l, e, R, s, m, args, below, meth, c⟩ := K
  obtain ⟨hx, hby, hml, hown, hret, hlk, hZ, rfl, hw⟩ := M
  obtain ⟨locs, X, hN, eT, hn, hcl, hsl⟩ := X
  subst hpN h1
  by_cases q : y < x
  · obtain ⟨s2, o2, st, r⟩ := yes q
    exact ⟨s2, o2, XS.lcmp X.here hx rfl (hb hby hdc) rfl (XS.ifYes (g := mkF m (pc + 1) L (.int (lcmpW x y) :: S)) X.here hx rfl (pc0 := pc + 1) rfl (hb hby hd) rfl ((if0 _ _).trans (tlt ((lw_gt x y).mpr q)).2.2.1) ho hY st), r⟩
  · obtain ⟨s2, o2, st, r⟩ := no q
    exact ⟨s2, o2, XS.lcmp X.here hx rfl (hb hby hdc) rfl (XS.ifNo (g := mkF m (pc + 1) L (.int (lcmpW x y) :: S)) X.here hx rfl (hb hby hd) rfl ((if0 _ _).trans (flt (fun z => q ((lw_gt x y).mp z))).2.2.1) st), r⟩
theorem own_icmp_le (M : own_Mx Z a0 K code own mx ret rm) (X : own_Sx n0 K T h cl sl) {x y : Int32} {o : Int} {pcY pcN : Nat} (hd : decode code pc = .ok (.if_icmp .le o, 3)) (ho : 0 ≤ (pc : Int) + o) (hY : ((pc : Int) + o).toNat = pcY) (hpN : pc + 3 = pcN) (yes : ¬ y < x → own_Fin n0 K P T pcY L S) (no : y < x → own_Fin n0 K P T pcN L S) : own_Fin n0 K P T pc L (.int y :: .int x :: S) := by
  obtain ⟨p, l, e, R, s, m, args, below, meth, c⟩ := K
  obtain ⟨hx, hby, hml, hown, hret, hlk, hZ, rfl, hw⟩ := M
  obtain ⟨locs, X, hN, eT, hn, hcl, hsl⟩ := X
  subst hpN
  by_cases q : y < x
  · obtain ⟨s2, o2, st, r⟩ := no q
    exact ⟨s2, o2, XS.icmpNo X.here hx rfl (hb hby hd) rfl (tlt q).2.2.2 st, r⟩
  · obtain ⟨s2, o2, st, r⟩ := yes q
    exact ⟨s2, o2, XS.icmpYes X.here hx rfl (pc0 := pc) rfl (hb hby hd) rfl (flt q).2.2.2 ho hY st, r⟩
theorem own_if_le (M : own_Mx Z a0 K code own mx ret rm) (X : own_Sx n0 K T h cl sl) {x : Int32} {o : Int} {pcY pcN : Nat} (hd : decode code pc = .ok (.ifCond .le o, 3)) (ho : 0 ≤ (pc : Int) + o) (hY : ((pc : Int) + o).toNat = pcY) (hpN : pc + 3 = pcN) (yes : ¬ 0 < x → own_Fin n0 K P T pcY L S) (no : 0 < x → own_Fin n0 K P T pcN L S) : own_Fin n0 K P T pc L (.int x :: S) := by
  obtain ⟨p, l, e, R, s, m, args, below, meth, c⟩ := K
  obtain ⟨hx, hby, hml, hown, hret, hlk, hZ, rfl, hw⟩ := M
  obtain ⟨locs, X, hN, eT, hn, hcl, hsl⟩ := X
  subst hpN
  by_cases q : 0 < x
  · obtain ⟨s2, o2, st, r⟩ := no q
    exact ⟨s2, o2, XS.ifNo X.here hx rfl (hb hby hd) rfl ((if0 _ _).trans (tlt q).2.2.2) st, r⟩
  · obtain ⟨s2, o2, st, r⟩ := yes q
    exact ⟨s2, o2, XS.ifYes X.here hx rfl (pc0 := pc) rfl (hb hby hd) rfl ((if0 _ _).trans (flt q).2.2.2) ho hY st, r⟩
theorem own_lcmp_le (M : own_Mx Z a0 K code own mx ret rm) (X : own_Sx n0 K T h cl sl) {x y : Int64} {pc1 : Nat} {o : Int} {pcY pcN : Nat} (hdc : decode code pc = .ok (.lcmp, 1)) (h1 : pc + 1 = pc1) (hd : decode code pc1 = .ok (.ifCond .le o, 3)) (ho : 0 ≤ (pc1 : Int) + o) (hY : ((pc1 : Int) + o).toNat = pcY) (hpN : pc1 + 3 = pcN) (yes : ¬ y < x → own_Fin n0 K P T pcY L S) (no : y < x → own_Fin n0 K P T pcN L S) : own_Fin n0 K P T pc L (.long y :: .long x :: S) := by
  obtain ⟨p, l, e, R, s, m, args, below, meth, c⟩ := K
  obtain ⟨hx, hby, hml, hown, hret, hlk, hZ, rfl, hw⟩ := M
  obtain ⟨locs, X, hN, eT, hn, hcl, hsl⟩ := X
  subst hpN h1
  by_cases q : y < x
  · obtain ⟨s2, o2, st, r⟩ := no q
    exact ⟨s2, o2, XS.lcmp X.here hx rfl (hb hby hdc) rfl (XS.ifNo (g := mkF m (pc + 1) L (.int (lcmpW x y) :: S)) X.here hx rfl (hb hby hd) rfl ((if0 _ _).trans (tlt ((lw_gt x y).mpr q)).2.2.2) st), r⟩
  · obtain ⟨s2, o2, st, r⟩ := yes q
    exact ⟨s2, o2, XS.lcmp X.here hx rfl (hb hby hdc) rfl (XS.ifYes (g := mkF m (pc + 1) L (.int (lcmpW x y) :: S)) X.here hx rfl (pc0 := pc + 1) rfl (hb hby hd) rfl ((if0 _ _).trans (flt (fun z => q ((lw_gt x y).mp z))).2.2.2) ho hY st), r⟩
theorem own_icmp_eq (M : own_Mx Z a0 K code own mx ret rm) (X : own_Sx n0 K T h cl sl) {x y : Int32} {o : Int} {pcY pcN : Nat} (hd : decode code pc = .ok (.if_icmp .eq o, 3)) (ho : 0 ≤ (pc : Int) + o) (hY : ((pc : Int) + o).toNat = pcY) (hpN : pc + 3 = pcN) (yes : x = y → own_Fin n0 K P T pcY L S) (no : ¬ x = y → own_Fin n0 K P T pcN L S) : own_Fin n0 K P T pc L (.int y :: .int x :: S) := by
  obtain ⟨p, l, e, R, s, m, args, below, meth, c⟩ := K
  obtain ⟨hx, hby, hml, hown, hret, hlk, hZ, rfl, hw⟩ := M
  obtain ⟨locs, X, hN, eT, hn, hcl, hsl⟩ := X
  subst hpN
  by_cases q : x = y
  · obtain ⟨s2, o2, st, r⟩ := yes q
    exact ⟨s2, o2, XS.icmpYes X.here hx rfl (pc0 := pc) rfl (hb hby hd) rfl (teq q).1 ho hY st, r⟩
  · obtain ⟨s2, o2, st, r⟩ := no q
    exact ⟨s2, o2, XS.icmpNo X.here hx rfl (hb hby hd) rfl (feq q).1 st, r⟩
theorem own_if_eq (M : own_Mx Z a0 K code own mx ret rm) (X : own_Sx n0 K T h cl sl) {x : Int32} {o : Int} {pcY pcN : Nat} (hd : decode code pc = .ok (.ifCond .eq o, 3)) (ho : 0 ≤ (pc : Int) + o) (hY : ((pc : Int) + o).toNat = pcY) (hpN : pc + 3 = pcN) (yes : x = 0 → own_Fin n0 K P T pcY L S) (no : ¬ x = 0 → own_Fin n0 K P T pcN L S) : own_Fin n0 K P T pc L (.int x :: S) := by
  obtain ⟨p, l, e, R, s, m, args, below, meth, c⟩ := K
  obtain ⟨hx, hby, hml, hown, hret, hlk, hZ, rfl, hw⟩ := M
  obtain ⟨locs, X, hN, eT, hn, hcl, hsl⟩ := X
  subst hpN
  by_cases q : x = 0
  · obtain ⟨s2, o2, st, r⟩ := yes q
    exact ⟨s2, o2, XS.ifYes X.here hx rfl (pc0 := pc) rfl (hb hby hd) rfl ((if0 _ _).trans (teq q).1) ho hY st, r⟩
  · obtain ⟨s2, o2, st, r⟩ := no q
    exact ⟨s2, o2, XS.ifNo X.here hx rfl (hb hby hd) rfl ((if0 _ _).trans (feq q).1) st, r⟩
theorem own_lcmp_eq (M : own_Mx Z a0 K code own mx ret rm) (X : own_Sx n0 K T h cl sl) {x y : Int64} {pc1 : Nat} {o : Int} {pcY pcN : Nat} (hdc : decode code pc = .ok (.lcmp, 1)) (h1 : pc + 1 = pc1) (hd : decode code pc1 = .ok (.ifCond .eq o, 3)) (ho : 0 ≤ (pc1 : Int) + o) (hY : ((pc1 : Int) + o).toNat = pcY) (hpN : pc1 + 3 = pcN) (yes : x = y → own_Fin n0 K P T pcY L S) (no : ¬ x = y → own_Fin n0 K P T pcN L S) : own_Fin n0 K P T pc L (.long y :: .long x :: S) := by
  obtain ⟨p, l, e, R, s, m, args, below, meth, c⟩ := K
  obtain ⟨hx, hby, hml, hown, hret, hlk, hZ, rfl, hw⟩ := M
  obtain ⟨locs, X, hN, eT, hn, hcl, hsl⟩ := X
  subst hpN h1
  by_cases q : x = y
  · obtain ⟨s2, o2, st, r⟩ := yes q
    exact ⟨s2, o2, XS.lcmp X.here hx rfl (hb hby hdc) rfl (XS.ifYes (g := mkF m (pc + 1) L (.int (lcmpW x y) :: S)) X.here hx rfl (pc0 := pc + 1) rfl (hb hby hd) rfl ((if0 _ _).trans (teq ((lw_eq x y).mpr q)).1) ho hY st), r⟩
  · obtain ⟨s2, o2, st, r⟩ := no q
    exact ⟨s2, o2, XS.lcmp X.here hx rfl (hb hby hdc) rfl (XS.ifNo (g := mkF m (pc + 1) L (.int (lcmpW x y) :: S)) X.here hx rfl (hb hby hd) rfl ((if0 _ _).trans (feq (fun z => q ((lw_eq x y).mp z))).1) st), r⟩
theorem own_icmp_ne (M : own_Mx Z a0 K code own mx ret rm) (X : own_Sx n0 K T h cl sl) {x y : Int32} {o : Int} {pcY pcN : Nat} (hd : decode code pc = .ok (.if_icmp .ne o, 3)) (ho : 0 ≤ (pc : Int) + o) (hY : ((pc : Int) + o).toNat = pcY) (hpN : pc + 3 = pcN) (yes : ¬ x = y → own_Fin n0 K P T pcY L S) (no : x = y → own_Fin n0 K P T pcN L S) : own_Fin n0 K P T pc L (.int y :: .int x :: S) := by
  obtain ⟨p, l, e, R, s, m, args, below, meth, c⟩ := K
  obtain ⟨hx, hby, hml, hown, hret, hlk, hZ, rfl, hw⟩ := M
  obtain ⟨locs, X, hN, eT, hn, hcl, hsl⟩ := X
  subst hpN
  by_cases q : x = y
  · obtain ⟨s2, o2, st, r⟩ := no q
    exact ⟨s2, o2, XS.icmpNo X.here hx rfl (hb hby hd) rfl (teq q).2 st, r⟩
  · obtain ⟨s2, o2, st, r⟩ := yes q
    exact ⟨s2, o2, XS.icmpYes X.here hx rfl (pc0 := pc) rfl (hb hby hd) rfl (feq q).2 ho hY st, r⟩
theorem own_if_ne (M : own_Mx Z a0 K code own mx ret rm) (X : own_Sx n0 K T h cl sl) {x : Int32} {o : Int} {pcY pcN : Nat} (hd : decode code pc = .ok (.ifCond .ne o, 3)) (ho : 0 ≤ (pc : Int) + o) (hY : ((pc : Int) + o).toNat = pcY) (hpN : pc + 3 = pcN) (yes : ¬ x = 0 → own_Fin n0 K P T pcY L S) (no : x = 0 → own_Fin n0 K P T pcN L S) : own_Fin n0 K P T pc L (.int x :: S) := by
  obtain ⟨p, l, e, R, s, m, args, below, meth, c⟩ := K
  obtain ⟨hx, hby, hml, hown, hret, hlk, hZ, rfl, hw⟩ := M
  obtain ⟨locs, X, hN, eT, hn, hcl, hsl⟩ := X
  subst hpN
  by_cases q : x = 0
  · obtain ⟨s2, o2, st, r⟩ := no q
    exact ⟨s2, o2, XS.ifNo X.here hx rfl (hb hby hd) rfl ((if0 _ _).trans (teq q).2) st, r⟩
  · obtain ⟨s2, o2, st, r⟩ := yes q
    exact ⟨s2, o2, XS.ifYes X.here hx rfl (pc0 := pc) rfl (hb hby hd) rfl ((if0 _ _).trans (feq q).2) ho hY st, r⟩
theorem own_lcmp_ne (M : own_Mx Z a0 K code own mx ret rm) (X : own_Sx n0 K T h cl sl) {x y : Int64} {pc1 : Nat} {o : Int} {pcY pcN : Nat} (hdc : decode code pc = .ok (.lcmp, 1)) (h1 : pc + 1 = pc1) (hd : decode code pc1 = .ok (.ifCond .ne o, 3)) (ho : 0 ≤ (pc1 : Int) + o) (hY : ((pc1 : Int) + o).toNat = pcY) (hpN : pc1 + 3 = pcN) (yes : ¬ x = y → own_Fin n0 K P T pcY L S) (no : x = y → own_Fin n0 K P T pcN L S) : own_Fin n0 K P T pc L (.long y :: .long x :: S) := by
  obtain ⟨p, l, e, R, s, m, args, below, meth, c⟩ := K
  obtain ⟨hx, hby, hml, hown, hret, hlk, hZ, rfl, hw⟩ := M
  obtain ⟨locs, X, hN, eT, hn, hcl, hsl⟩ := X
  subst hpN h1
  by_cases q : x = y
  · obtain ⟨s2, o2, st, r⟩ := no q
    exact ⟨s2, o2, XS.lcmp X.here hx rfl (hb hby hdc) rfl (XS.ifNo (g := mkF m (pc + 1) L (.int (lcmpW x y) :: S)) X.here hx rfl (hb hby hd) rfl ((if0 _ _).trans (teq ((lw_eq x y).mpr q)).2) st), r⟩
  · obtain ⟨s2, o2, st, r⟩ := yes q
    exact ⟨s2, o2, XS.lcmp X.here hx rfl (hb hby hdc) rfl (XS.ifYes (g := mkF m (pc + 1) L (.int (lcmpW x y) :: S)) X.here hx rfl (pc0 := pc + 1) rfl (hb hby hd) rfl ((if0 _ _).trans (feq (fun z => q ((lw_eq x y).mp z))).2) ho hY st), r⟩
theorem own_callS (M : own_Mx Z a0 K code own mx ret rm) (X : own_Sx n0 K T h cl sl) {y : MethodName} {ycode : ByteArray} {ymx : Nat} {yret : Option FieldType} {yrm : Room} {idx : Nat} {Q : Option Value → Heap → Prop} {ps : List FieldType} {yr : Option FieldType} (argsL : List Value)
    (w1 : (Jvm.Cond.methodLink own idx y).before a0 Z = true) (w2 : (Jvm.Cond.static y).before a0 Z = true) (w3 : (Jvm.Cond.initialized y.cls).before a0 Z = true) (w4 : (Jvm.Cond.code y ycode ymx yret).before a0 Z = true) (hy : y.cls ≠ "java/lang/invoke/MethodHandle" ∧ y.cls ≠ "java/lang/invoke/VarHandle")
    (hM : own_Met K.2.1 Z n0 y ycode ymx yret yrm argsL.toArray h Q) (hL : L.size = mx) (hd : decode code pc = .ok (.invokestatic idx, 3)) (hp : pc + 3 = pc') (hpd : parseMethodDescriptor y.desc = some ⟨ps, yr⟩) (hlen : argsL.length = ps.length) (hS : S = argsL.reverse ++ rest)
    (W : Nat) (hW : (rest.map fun v => v.category).sum ≤ W) (hf : yrm.frames + 1 ≤ rm.frames) (hl : W + (ymx + 11) + yrm.locals ≤ rm.locals) (hc : cl + yrm.cells ≤ rm.cells) (hs : sl + yrm.slots ≤ rm.slots)
    (hr : ∀ T' h' v, own_Sx n0 K T' h' (cl + yrm.cells) (sl + yrm.slots) → Q v h' → own_Fin n0 K P T' pc' L (v.toList ++ rest)) : own_Fin n0 K P T pc L S := by
  obtain ⟨p, l, e, R, s, m, args, below, meth, c⟩ := K
  obtain ⟨hx, hby, hml, hown, hret, hlk, hZ, rfl, hw⟩ := M
  obtain ⟨locs, X, hN, eT, hn, hcl, hsl⟩ := X
  obtain ⟨v, vm1, ⟨T1, L1, k1, n1⟩, -, X1, ⟨Lc, hQ, l1, y1, z1⟩, st⟩ := Jvm.LawKit.callS X hx (y := y) hown (mvT hZ w1) (mvT hZ w2) (mvT hZ w3) (mvT hZ w4) hy (backOf (W := W) (Q := fun v h L => Q v h ∧ Fr n0 L) (hM []) hZ w4 w3 hf hl) (g := mkF m pc L S) rfl (by rw [hml]; exact hL) (argsL := argsL) (rest := rest) (lenOf hpd hlen) hS (by show 2 * 0 + _ ≤ W; omega) (hb hby hd) (fun _ _ => ⟨rfl, eT, hc, hs⟩)
  dsimp only [Pt.U, Pt.locs, Pt.cells, Pt.slots] at X1 l1 y1 z1 st hQ
  subst l1 y1 z1 hp
  obtain ⟨s2, o2, st2, r⟩ := hr T1 _ v ⟨_, X1, Fr.app hN hQ.2, rfl, hn, hc, hs⟩ hQ.1
  exact ⟨s2, o2, st _ st2, r⟩
theorem own_callP (M : own_Mx Z a0 K code own mx ret rm) (X : own_Sx n0 K T h cl sl) {y : MethodName} {ycode : ByteArray} {ymx : Nat} {yret : Option FieldType} {yrm : Room} {idx : Nat} {ps : List FieldType} {yr : Option FieldType} {w : Value} (argsL : List Value)
    (w1 : (Jvm.Cond.methodLink own idx y).before a0 Z = true) (w2 : (Jvm.Cond.static y).before a0 Z = true) (w3 : (Jvm.Cond.initialized y.cls).before a0 Z = true) (w4 : (Jvm.Cond.code y ycode ymx yret).before a0 Z = true) (hy : y.cls ≠ "java/lang/invoke/MethodHandle" ∧ y.cls ≠ "java/lang/invoke/VarHandle")
    (hM : own_Met K.2.1 Z n0 y ycode ymx yret yrm argsL.toArray h (fun v h' => v = some w ∧ h' = h)) (hL : L.size = mx) (hd : decode code pc = .ok (.invokestatic idx, 3)) (hp : pc + 3 = pc') (hpd : parseMethodDescriptor y.desc = some ⟨ps, yr⟩) (hlen : argsL.length = ps.length) (hS : S = argsL.reverse ++ rest)
    (W : Nat) (hW : (rest.map fun v => v.category).sum ≤ W) (hf : yrm.frames + 1 ≤ rm.frames) (hl : W + (ymx + 11) + yrm.locals ≤ rm.locals) (hc0 : yrm.cells = 0) (hs0 : yrm.slots = 0)
    (hr : ∀ T', own_Sx n0 K T' h cl sl → own_Fin n0 K P T' pc' L (w :: rest)) : own_Fin n0 K P T pc L S := by
  have hcs : cl ≤ rm.cells ∧ sl ≤ rm.slots := by
    obtain ⟨p, l, e, R, s, m, args, below, meth, c⟩ := K
    obtain ⟨hx, hby, hml, hown, hret, hlk, hZ, rfl, hw⟩ := M
    obtain ⟨locs, X, hN, eT, hn, hcl, hsl⟩ := X
    exact ⟨hcl, hsl⟩
  refine own_callS M X argsL w1 w2 w3 w4 hy hM hL hd hp hpd hlen hS W hW hf hl (by rw [hc0]; exact hcs.1) (by rw [hs0]; exact hcs.2) ?_
  rintro T' h' v X' ⟨rfl, rfl⟩
  rw [hc0, hs0] at X'
  exact hr T' X'
theorem own_callP0 (M : own_Mx Z a0 K code own mx ret rm) (X : own_Sx n0 K T h cl sl) {y : MethodName} {ycode : ByteArray} {ymx : Nat} {yret : Option FieldType} {yrm : Room} {idx : Nat} {ps : List FieldType} {yr : Option FieldType} (argsL : List Value)
    (w1 : (Jvm.Cond.methodLink own idx y).before a0 Z = true) (w2 : (Jvm.Cond.static y).before a0 Z = true) (w3 : (Jvm.Cond.initialized y.cls).before a0 Z = true) (w4 : (Jvm.Cond.code y ycode ymx yret).before a0 Z = true) (hy : y.cls ≠ "java/lang/invoke/MethodHandle" ∧ y.cls ≠ "java/lang/invoke/VarHandle")
    (hM : own_Met K.2.1 Z n0 y ycode ymx yret yrm argsL.toArray h (fun v h' => v = none ∧ h' = h)) (hL : L.size = mx) (hd : decode code pc = .ok (.invokestatic idx, 3)) (hp : pc + 3 = pc') (hpd : parseMethodDescriptor y.desc = some ⟨ps, yr⟩) (hlen : argsL.length = ps.length) (hS : S = argsL.reverse ++ rest)
    (W : Nat) (hW : (rest.map fun v => v.category).sum ≤ W) (hf : yrm.frames + 1 ≤ rm.frames) (hl : W + (ymx + 11) + yrm.locals ≤ rm.locals) (hc0 : yrm.cells = 0) (hs0 : yrm.slots = 0)
    (hr : ∀ T', own_Sx n0 K T' h cl sl → own_Fin n0 K P T' pc' L (rest)) : own_Fin n0 K P T pc L S := by
  have hcs : cl ≤ rm.cells ∧ sl ≤ rm.slots := by
    obtain ⟨p, l, e, R, s, m, args, below, meth, c⟩ := K
    obtain ⟨hx, hby, hml, hown, hret, hlk, hZ, rfl, hw⟩ := M
    obtain ⟨locs, X, hN, eT, hn, hcl, hsl⟩ := X
    exact ⟨hcl, hsl⟩
  refine own_callS M X argsL w1 w2 w3 w4 hy hM hL hd hp hpd hlen hS W hW hf hl (by rw [hc0]; exact hcs.1) (by rw [hs0]; exact hcs.2) ?_
  rintro T' h' v X' ⟨rfl, rfl⟩
  rw [hc0, hs0] at X'
  exact hr T' X'
/-! arrays: n places, place j holds f j -/
def own_Va (Z : State) (h : Heap) (a : Addr) (ty : FieldType) (n : Nat) (f : Nat → Value) : Prop :=
  ∃ c : Cell, Arr Z h a c ty ∧ c.slots.size = n ∧ n < 2 ^ 31 ∧ (∀ j, j < n → c.slots[j]? = some (f j)) ∧ ∀ j, j < n → fits ty (f j) = true
def own_upd (f : Nat → Value) (i : Nat) (v : Value) : Nat → Value := fun j => if j = i then v else f j
theorem own_Va.lt {a : Addr} {ty : FieldType} {n : Nat} {f : Nat → Value} (V : own_Va Z h a ty n f) : a < h.size := by obtain ⟨c, A, -⟩ := V; exact A.lt
theorem own_Va.small {a : Addr} {ty : FieldType} {n : Nat} {f : Nat → Value} (V : own_Va Z h a ty n f) : n < 2 ^ 31 := by obtain ⟨c, A, -, q, -⟩ := V; exact q
theorem own_Va.ext {h' : Heap} {a : Addr} {ty : FieldType} {n : Nat} {f : Nat → Value} (V : own_Va Z h a ty n f) (E : Ext h h') : own_Va Z h' a ty n f := by obtain ⟨c, A, r⟩ := V; exact ⟨c, A.ext E, r⟩
theorem own_Va.keep {h' : Heap} {ws : List Addr} {a : Addr} {ty : FieldType} {n : Nat} {f : Nat → Value} (V : own_Va Z h a ty n f) (K : Keep h h' ws) (q : a ∉ ws) : own_Va Z h' a ty n f := by obtain ⟨c, A, r⟩ := V; exact ⟨c, ⟨K.2.1 a c A.1 q, A.2⟩, r⟩
theorem own_Va.congr {a : Addr} {ty : FieldType} {n : Nat} {f g : Nat → Value} (V : own_Va Z h a ty n f) (q : ∀ j, j < n → f j = g j) : own_Va Z h a ty n g := by
  obtain ⟨c, A, r1, r2, r3, r4⟩ := V
  exact ⟨c, A, r1, r2, fun j hj => by rw [← q j hj]; exact r3 j hj, fun j hj => by rw [← q j hj]; exact r4 j hj⟩
theorem own_Va.wr {h' : Heap} {a : Addr} {ty : FieldType} {n i : Nat} {f : Nat → Value} {v : Value} (V : own_Va Z h a ty n f) (W : Wr h h' a i v) (hf : fits ty v = true) : own_Va Z h' a ty n (own_upd f i v) := by
  obtain ⟨c, A, r1, r2, r3, r4⟩ := V
  refine ⟨c.setSlot i v, A.same W, by rw [sz_set]; exact r1, r2, fun j hj => ?_, fun j hj => ?_⟩
  · have hj' : j < c.slots.size := by omega
    by_cases q : j = i
    · subst q; simp [Cell.setSlot, own_upd, hj']
    · have q' : ¬ i = j := fun z => q z.symm
      simp only [Cell.setSlot, own_upd, if_neg q, Array.getElem?_setIfInBounds, if_neg q']
      exact r3 j hj
  · by_cases q : j = i
    · simp only [own_upd, if_pos q]; exact hf
    · simp only [own_upd, if_neg q]; exact r4 j hj
theorem own_upd_eq {f : Nat → Value} {i : Nat} {v : Value} : own_upd f i v i = v := if_pos rfl
theorem own_upd_ne {f : Nat → Value} {i j : Nat} {v : Value} (q : j ≠ i) : own_upd f i v j = f j := if_neg q
/-- an array of ints (bytes) by the list of its values; of longs -/
def own_lsi (ws : List Int32) : Nat → Value := fun j => .int (ws.getD j 0)
def own_lsj (ws : List Int64) : Nat → Value := fun j => .long (ws.getD j 0)
theorem own_zeroi {ty : FieldType} (ws : List Int32) (n : Nat) (hw : ws = List.replicate n 0) (hd : defaultValue ty = .int 0 := by rfl) : ∀ j, j < n → (fun _ : Nat => defaultValue ty) j = own_lsi ws j := fun j hj => by
  show defaultValue ty = .int (ws.getD j 0)
  rw [hw, hd]; simp [List.getD, hj]
theorem own_zeroj {ty : FieldType} (ws : List Int64) (n : Nat) (hw : ws = List.replicate n 0) (hd : defaultValue ty = .long 0 := by rfl) : ∀ j, j < n → (fun _ : Nat => defaultValue ty) j = own_lsj ws j := fun j hj => by
  show defaultValue ty = .long (ws.getD j 0)
  rw [hw, hd]; simp [List.getD, hj]
theorem own_seti {ws ws' : List Int32} {i n : Nat} {v : Int32} (hs : ws.set i v = ws') (hi : i < ws.length) : ∀ j, j < n → own_upd (own_lsi ws) i (.int v) j = own_lsi ws' j := fun j hj => by
  subst hs
  by_cases q : j = i
  · subst q; simp [own_upd, own_lsi, List.getD, hi]
  · have q' : ¬ i = j := fun z => q z.symm
    simp [own_upd, own_lsi, List.getD, q, q']
theorem own_setj {ws ws' : List Int64} {i n : Nat} {v : Int64} (hs : ws.set i v = ws') (hi : i < ws.length) : ∀ j, j < n → own_upd (own_lsj ws) i (.long v) j = own_lsj ws' j := fun j hj => by
  subst hs
  by_cases q : j = i
  · subst q; simp [own_upd, own_lsj, List.getD, hi]
  · have q' : ¬ i = j := fun z => q z.symm
    simp [own_upd, own_lsj, List.getD, q, q']
theorem own_nat {j : Int32} {i : Nat} (hi : j.toInt = i) : j.toNatClampNeg = i := by simp [Int32.toNatClampNeg, hi]
theorem own_inb {c : Cell} {n i : Nat} {j : Int32} (hs : c.slots.size = n) (hi : j.toInt = i) (hin : i < n) : ¬ (j < 0 ∨ c.slots.size ≤ j.toNatClampNeg) := by
  rw [own_nat hi, hs, Int32.lt_iff_toInt_lt, hi, Int32.toInt_zero]; omega
theorem own_baload (M : own_Mx Z a0 K code own mx ret rm) (X : own_Sx n0 K T h cl sl) {a : Addr} {n i : Nat} {f : Nat → Value} {j : Int32} {v : Value} (V : own_Va Z h a .byte n f) (hi : j.toInt = i) (hin : i < n) (hv : f i = v) (hd : decode code pc = .ok (.baload, 1)) (hp : pc + 1 = pc') (hr : own_Fin n0 K P T pc' L (v :: S)) : own_Fin n0 K P T pc L (.int j :: .ref a :: S) := by
  obtain ⟨p, l, e, R, s, m, args, below, meth, c⟩ := K
  obtain ⟨hx, hby, hml, hown, hret, hlk, hZ, rfl, hw⟩ := M
  obtain ⟨locs, X, hN, eT, hn, hcl, hsl⟩ := X
  obtain ⟨s2, o2, st, r⟩ := hr
  obtain ⟨cc, A, hs, hlt, hg, -⟩ := V
  subst hp hv
  exact ⟨s2, o2, X.baloadBytes hx (j := j) (v := f i) (by rw [eT]; exact A.1) (State.isArrayOf_alike hZ.alike A.2.1) A.2.2 (own_inb hs hi hin) (by rw [own_nat hi]; exact hg i hin) (g := mkF m pc L (.int j :: .ref a :: S)) rfl rfl (hb hby hd) _ st, r⟩
theorem own_iaload (M : own_Mx Z a0 K code own mx ret rm) (X : own_Sx n0 K T h cl sl) {a : Addr} {n i : Nat} {f : Nat → Value} {j : Int32} {v : Value} (V : own_Va Z h a .int n f) (hi : j.toInt = i) (hin : i < n) (hv : f i = v) (hd : decode code pc = .ok (.iaload, 1)) (hp : pc + 1 = pc') (hr : own_Fin n0 K P T pc' L (v :: S)) : own_Fin n0 K P T pc L (.int j :: .ref a :: S) := by
  obtain ⟨p, l, e, R, s, m, args, below, meth, c⟩ := K
  obtain ⟨hx, hby, hml, hown, hret, hlk, hZ, rfl, hw⟩ := M
  obtain ⟨locs, X, hN, eT, hn, hcl, hsl⟩ := X
  obtain ⟨s2, o2, st, r⟩ := hr
  obtain ⟨cc, A, hs, hlt, hg, -⟩ := V
  subst hp hv
  exact ⟨s2, o2, X.iaload hx (j := j) (v := f i) (by rw [eT]; exact A.1) (State.isArrayOf_alike hZ.alike A.2.1) A.2.2 (own_inb hs hi hin) (by rw [own_nat hi]; exact hg i hin) (g := mkF m pc L (.int j :: .ref a :: S)) rfl rfl (hb hby hd) _ st, r⟩
theorem own_laload (M : own_Mx Z a0 K code own mx ret rm) (X : own_Sx n0 K T h cl sl) {a : Addr} {n i : Nat} {f : Nat → Value} {j : Int32} {v : Value} (V : own_Va Z h a .long n f) (hi : j.toInt = i) (hin : i < n) (hv : f i = v) (hd : decode code pc = .ok (.laload, 1)) (hp : pc + 1 = pc') (hr : own_Fin n0 K P T pc' L (v :: S)) : own_Fin n0 K P T pc L (.int j :: .ref a :: S) := by
  obtain ⟨p, l, e, R, s, m, args, below, meth, c⟩ := K
  obtain ⟨hx, hby, hml, hown, hret, hlk, hZ, rfl, hw⟩ := M
  obtain ⟨locs, X, hN, eT, hn, hcl, hsl⟩ := X
  obtain ⟨s2, o2, st, r⟩ := hr
  obtain ⟨cc, A, hs, hlt, hg, -⟩ := V
  subst hp hv
  exact ⟨s2, o2, X.laload hx (j := j) (v := f i) (by rw [eT]; exact A.1) (State.isArrayOf_alike hZ.alike A.2.1) A.2.2 (own_inb hs hi hin) (by rw [own_nat hi]; exact hg i hin) (g := mkF m pc L (.int j :: .ref a :: S)) rfl rfl (hb hby hd) _ st, r⟩
theorem own_bastore (M : own_Mx Z a0 K code own mx ret rm) (X : own_Sx n0 K T h cl sl) {a : Addr} {n i : Nat} {f : Nat → Value} {j : Int32} {x : Int32} (V : own_Va Z h a .byte n f) (hga : n0 ≤ a) (hi : j.toInt = i) (hin : i < n) (hd : decode code pc = .ok (.bastore, 1)) (hp : pc + 1 = pc') (hr : ∀ T' h', own_Sx n0 K T' h' cl sl → Keep h h' [a] → own_Va Z h' a .byte n (own_upd f i (.int x.toInt8.toInt32)) → own_Fin n0 K P T' pc' L S) : own_Fin n0 K P T pc L (.int x :: .int j :: .ref a :: S) := by
  obtain ⟨p, l, e, R, s, m, args, below, meth, c⟩ := K
  obtain ⟨hx, hby, hml, hown, hret, hlk, hZ, rfl, hw⟩ := M
  obtain ⟨locs, X, hN, eT, hn, hcl, hsl⟩ := X
  have V0 := V
  obtain ⟨cc, A, hs, hlt, hg, -⟩ := V
  obtain ⟨T1, h1, X1, e1, W1, st⟩ := stB X hx hZ eT A (j := j) (own_inb hs hi hin) (g := mkF m pc L (.int x :: .int j :: .ref a :: S)) rfl rfl (hb hby hd)
  rw [own_nat hi] at W1 X1
  subst hp
  obtain ⟨s2, o2, st2, r⟩ := hr T1 h1 ⟨_, X1, Fr.snoc X1 hN hga, e1, hn, hcl, hsl⟩ (Keep.of_wr W1) (V0.wr W1 (fits_nar_byte x))
  exact ⟨s2, o2, st _ st2, r⟩
theorem own_iastore (M : own_Mx Z a0 K code own mx ret rm) (X : own_Sx n0 K T h cl sl) {a : Addr} {n i : Nat} {f : Nat → Value} {j : Int32} {x : Int32} (V : own_Va Z h a .int n f) (hga : n0 ≤ a) (hi : j.toInt = i) (hin : i < n) (hd : decode code pc = .ok (.iastore, 1)) (hp : pc + 1 = pc') (hr : ∀ T' h', own_Sx n0 K T' h' cl sl → Keep h h' [a] → own_Va Z h' a .int n (own_upd f i (.int x)) → own_Fin n0 K P T' pc' L S) : own_Fin n0 K P T pc L (.int x :: .int j :: .ref a :: S) := by
  obtain ⟨p, l, e, R, s, m, args, below, meth, c⟩ := K
  obtain ⟨hx, hby, hml, hown, hret, hlk, hZ, rfl, hw⟩ := M
  obtain ⟨locs, X, hN, eT, hn, hcl, hsl⟩ := X
  have V0 := V
  obtain ⟨cc, A, hs, hlt, hg, -⟩ := V
  obtain ⟨T1, h1, X1, e1, W1, st⟩ := stI X hx hZ eT A (j := j) (own_inb hs hi hin) (g := mkF m pc L (.int x :: .int j :: .ref a :: S)) rfl rfl (hb hby hd)
  rw [own_nat hi] at W1 X1
  subst hp
  obtain ⟨s2, o2, st2, r⟩ := hr T1 h1 ⟨_, X1, Fr.snoc X1 hN hga, e1, hn, hcl, hsl⟩ (Keep.of_wr W1) (V0.wr W1 rfl)
  exact ⟨s2, o2, st _ st2, r⟩
theorem own_lastore (M : own_Mx Z a0 K code own mx ret rm) (X : own_Sx n0 K T h cl sl) {a : Addr} {n i : Nat} {f : Nat → Value} {j : Int32} {x : Int64} (V : own_Va Z h a .long n f) (hga : n0 ≤ a) (hi : j.toInt = i) (hin : i < n) (hd : decode code pc = .ok (.lastore, 1)) (hp : pc + 1 = pc') (hr : ∀ T' h', own_Sx n0 K T' h' cl sl → Keep h h' [a] → own_Va Z h' a .long n (own_upd f i (.long x)) → own_Fin n0 K P T' pc' L S) : own_Fin n0 K P T pc L (.long x :: .int j :: .ref a :: S) := by
  obtain ⟨p, l, e, R, s, m, args, below, meth, c⟩ := K
  obtain ⟨hx, hby, hml, hown, hret, hlk, hZ, rfl, hw⟩ := M
  obtain ⟨locs, X, hN, eT, hn, hcl, hsl⟩ := X
  have V0 := V
  obtain ⟨cc, A, hs, hlt, hg, -⟩ := V
  obtain ⟨T1, h1, X1, e1, W1, st⟩ := stJ X hx hZ eT A (j := j) (own_inb hs hi hin) (g := mkF m pc L (.long x :: .int j :: .ref a :: S)) rfl rfl (hb hby hd)
  rw [own_nat hi] at W1 X1
  subst hp
  obtain ⟨s2, o2, st2, r⟩ := hr T1 h1 ⟨_, X1, Fr.snoc X1 hN hga, e1, hn, hcl, hsl⟩ (Keep.of_wr W1) (V0.wr W1 rfl)
  exact ⟨s2, o2, st _ st2, r⟩
theorem own_arraylength (M : own_Mx Z a0 K code own mx ret rm) (X : own_Sx n0 K T h cl sl) {a : Addr} {ty : FieldType} {n : Nat} {f : Nat → Value} {z : Int32} (V : own_Va Z h a ty n f) (hz : z.toInt = n) (hd : decode code pc = .ok (.arraylength, 1)) (hp : pc + 1 = pc') (hr : own_Fin n0 K P T pc' L (.int z :: S)) : own_Fin n0 K P T pc L (.ref a :: S) := by
  obtain ⟨p, l, e, R, s, m, args, below, meth, c⟩ := K
  obtain ⟨hx, hby, hml, hown, hret, hlk, hZ, rfl, hw⟩ := M
  obtain ⟨locs, X, hN, eT, hn, hcl, hsl⟩ := X
  obtain ⟨s2, o2, st, r⟩ := hr
  obtain ⟨cc, A, hs, hlt, hg, -⟩ := V
  subst hp
  have e : cc.slots.size.toInt32 = z := by rw [hs]; exact Int32.toInt_inj.mp (by rw [len_toInt hlt, hz])
  exact ⟨s2, o2, X.arraylength hx (by rw [eT]; exact A.1) (State.isArrayOf_alike hZ.alike A.2.1) (g := mkF m pc L (.ref a :: S)) rfl rfl (hb hby hd) _ (by rw [e]; exact st), r⟩
theorem own_newarray (M : own_Mx Z a0 K code own mx ret rm) (X : own_Sx n0 K T h cl sl) {aty : ArrayType} {nn : Int32} {n : Nat} (cap : Nat) (w : (Jvm.Cond.arrayClass (newarray.typeOf aty)).before a0 Z = true) (hd : decode code pc = .ok (.newarray aty, 2)) (hp : pc + 2 = pc') (hnn : nn.toInt = n) (hcap : n ≤ cap) (hb8 : cap * 8 ≤ 536870912) (hc : cl + 1 ≤ rm.cells) (hs : sl + cap ≤ rm.slots)
    (hr : ∀ T' h' a, n0 ≤ a → h.size ≤ a → own_Sx n0 K T' h' (cl + 1) (sl + cap) → Ext h h' → own_Va Z h' a (newarray.typeOf aty) n (fun _ => defaultValue (newarray.typeOf aty)) → own_Fin n0 K P T' pc' L (.ref a :: S)) : own_Fin n0 K P T pc L (.int nn :: S) := by
  have hsz := X.size
  obtain ⟨p, l, e, R, s, m, args, below, meth, c⟩ := K
  obtain ⟨hx, hby, hml, hown, hret, hlk, hZ, rfl, hw⟩ := M
  obtain ⟨locs, X, hN, eT, hn, hcl, hsl⟩ := X
  obtain ⟨T1, h1, cA, X1, e1, E1, A1, st⟩ := newP X hx hZ w eT (g := mkF m pc L (.int nn :: S)) rfl (hb hby hd) rfl (by rw [Int32.lt_iff_toInt_lt, hnn, Int32.toInt_zero]; omega) (cap := cap) (by rw [own_nat hnn]; exact hcap) hb8 hc hs
  subst hp
  obtain ⟨s2, o2, st2, r⟩ := hr T1 h1 h.size hsz (Nat.le_refl _) ⟨_, X1, hN, e1, hn, hc, hs⟩ E1 ⟨_, A1, by rw [sz_new, own_nat hnn], by omega, fun j hj => by simp [newA, own_nat hnn, hj], fun j hj => by cases aty <;> rfl⟩
  exact ⟨s2, o2, st _ st2, r⟩
theorem own_new (M : own_Mx Z a0 K code own mx ret rm) (X : own_Sx n0 K T h cl sl) {C : String} {idx k : Nat} (w : (Jvm.Cond.classLink own idx C).before a0 Z = true) (wi : (Jvm.Cond.instantiable C k).before a0 Z = true) (wz : (Jvm.Cond.initialized C).before a0 Z = true) (hd : decode code pc = .ok (.new idx, 3)) (hp : pc + 3 = pc') (hc : cl + 1 ≤ rm.cells) (hs : sl + k ≤ rm.slots)
    (hr : ∀ T' h' a, n0 ≤ a → h.size ≤ a → own_Sx n0 K T' h' (cl + 1) (sl + k) → Ext h h' → Exa Z h' a C → (∀ {O nm d : String} {ty : FieldType}, Laid Z a0 C O nm d → parseFieldDescriptor d = some ty → Fld Z h' a O nm d (defaultValue ty)) → own_Fin n0 K P T' pc' L (.ref a :: S)) : own_Fin n0 K P T pc L S := by
  have hsz := X.size
  obtain ⟨p, l, e, R, s, m, args, below, meth, c⟩ := K
  obtain ⟨hx, hby, hml, hown, hret, hlk, hZ, rfl, hw⟩ := M
  obtain ⟨locs, X, hN, eT, hn, hcl, hsl⟩ := X
  obtain ⟨T1, h1, X1, e1, E1, A1, D1, -, st⟩ := newO X hx hZ hown w wi wz eT (g := mkF m pc L S) rfl (hb hby hd) hc hs
  subst hp
  obtain ⟨s2, o2, st2, r⟩ := hr T1 h1 h.size hsz (Nat.le_refl _) ⟨_, X1, hN, e1, hn, hc, hs⟩ E1 A1 D1
  exact ⟨s2, o2, st _ st2, r⟩
theorem own_getfield (M : own_Mx Z a0 K code own mx ret rm) (X : own_Sx n0 K T h cl sl) {O nm d : String} {idx : Nat} {a : Addr} {v : Value} (w : (Jvm.Cond.fieldLink own idx O nm d).before a0 Z = true) (F : Fld Z h a O nm d v) (hd : decode code pc = .ok (.getfield idx, 3)) (hp : pc + 3 = pc') (hr : ∀ T', own_Sx n0 K T' h cl sl → own_Fin n0 K P T' pc' L (v :: S)) : own_Fin n0 K P T pc L (.ref a :: S) := by
  obtain ⟨p, l, e, R, s, m, args, below, meth, c⟩ := K
  obtain ⟨hx, hby, hml, hown, hret, hlk, hZ, rfl, hw⟩ := M
  obtain ⟨locs, X, hN, eT, hn, hcl, hsl⟩ := X
  obtain ⟨T1, X1, e1, st⟩ := getF X hx hZ hown (host := "") (Or.inl w) Via.refl eT F (g := mkF m pc L (.ref a :: S)) rfl rfl (hb hby hd)
  subst hp
  obtain ⟨s2, o2, st2, r⟩ := hr T1 ⟨_, X1, hN, e1, hn, hcl, hsl⟩
  exact ⟨s2, o2, st _ st2, r⟩
theorem own_putfield (M : own_Mx Z a0 K code own mx ret rm) (X : own_Sx n0 K T h cl sl) {O nm d C : String} {idx k : Nat} {a : Addr} {v old : Value} {ty : FieldType} (w : (Jvm.Cond.fieldLink own idx O nm d).before a0 Z = true) (F : Fld Z h a O nm d old) (E : Exa Z h a C) (hL : (Jvm.Cond.lays C O nm d).before a0 Z = true ∨ ((Jvm.Cond.laysFinal C O nm d).before a0 Z = true ∧ own = O ∧ K.2.2.2.2.2.2.2.2.1.name = "<init>")) (wi : (Jvm.Cond.instantiable C k).before a0 Z = true) (hty : parseFieldDescriptor d = some ty) (hnv : narrow ty v = v) (hf : fits ty v = true) (hga : n0 ≤ a) (hd : decode code pc = .ok (.putfield idx, 3)) (hp : pc + 3 = pc')
    (hr : ∀ T' h', own_Sx n0 K T' h' cl sl → Wr h h' a (Jvm.RoadKit.slotOf Z O nm d) v → own_Fin n0 K P T' pc' L S) : own_Fin n0 K P T pc L (v :: .ref a :: S) := by
  obtain ⟨p, l, e, R, s, m, args, below, meth, c⟩ := K
  obtain ⟨hx, hby, hml, hown, hret, hlk, hZ, rfl, hw⟩ := M
  obtain ⟨locs, X, hN, eT, hn, hcl, hsl⟩ := X
  obtain ⟨T1, h1, X1, e1, W1, st⟩ := putF X hx hZ hown (host := "") (Or.inl w) Via.refl eT F E hL wi hty hnv hf (g := mkF m pc L (v :: .ref a :: S)) rfl rfl (hb hby hd)
  subst hp
  obtain ⟨s2, o2, st2, r⟩ := hr T1 h1 ⟨_, X1, Fr.snoc X1 hN hga, e1, hn, hcl, hsl⟩ W1
  exact ⟨s2, o2, st _ st2, r⟩
theorem own_initO (M : own_Mx Z a0 K code own mx ret rm) (X : own_Sx n0 K T h cl sl) {idx : Nat} {a : Addr} (w1 : (Jvm.Cond.methodLink own idx Lib.objectInit).before a0 Z = true) (w2 : (Jvm.Cond.instanceMethod Lib.objectInit).before a0 Z = true) (w3 : (Jvm.Cond.code Lib.objectInit ⟨#[0xb1]⟩ 1 none).before a0 Z = true) (hL : L.size = mx) (hd : decode code pc = .ok (.invokespecial idx, 3)) (hp : pc + 3 = pc') (hf : 1 ≤ rm.frames) (W : Nat) (hW : (S.map fun v => v.category).sum ≤ W) (hl : W + 12 ≤ rm.locals) (hr : ∀ T', own_Sx n0 K T' h cl sl → own_Fin n0 K P T' pc' L S) : own_Fin n0 K P T pc L (.ref a :: S) := by
  obtain ⟨p, l, e, R, s, m, args, below, meth, c⟩ := K
  obtain ⟨hx, hby, hml, hown, hret, hlk, hZ, rfl, hw⟩ := M
  obtain ⟨locs, X, hN, eT, hn, hcl, hsl⟩ := X
  obtain ⟨T1, X1, e1, st⟩ := initO X hx hZ hown w1 w2 w3 eT (g := mkF m pc L (.ref a :: S)) rfl (by rw [hml]; exact hL) rfl (hb hby hd) hf (W := W) (by show 2 * 0 + _ ≤ W; omega) hl
  subst hp
  obtain ⟨s2, o2, st2, r⟩ := hr T1 ⟨_, X1, hN, e1, hn, hcl, hsl⟩
  exact ⟨s2, o2, st _ st2, r⟩
theorem own_callN (M : own_Mx Z a0 K code own mx ret rm) (X : own_Sx n0 K T h cl sl) {y : MethodName} {ycode : ByteArray} {ymx : Nat} {yret : Option FieldType} {yrm : Room} {idx : Nat} {Q : Option Value → Heap → Prop} {ps : List FieldType} {yr : Option FieldType} {a : Addr} (argsL : List Value)
    (w1 : (Jvm.Cond.methodLink own idx y).before a0 Z = true) (w2 : (Jvm.Cond.instanceMethod y).before a0 Z = true) (w3 : (Jvm.Cond.initialized y.cls).before a0 Z = true) (w4 : (Jvm.Cond.code y ycode ymx yret).before a0 Z = true) (hy : y.cls ≠ "java/lang/invoke/MethodHandle" ∧ y.cls ≠ "java/lang/invoke/VarHandle") (hnm : y.name = "<init>") (hnr : yret = none)
    (hM : own_Met K.2.1 Z n0 y ycode ymx yret yrm (.ref a :: argsL).toArray h Q) (hL : L.size = mx) (hd : decode code pc = .ok (.invokespecial idx, 3)) (hp : pc + 3 = pc') (hpd : parseMethodDescriptor y.desc = some ⟨ps, yr⟩) (hlen : argsL.length = ps.length) (hS : S = argsL.reverse ++ .ref a :: rest)
    (W : Nat) (hW : (rest.map fun v => v.category).sum ≤ W) (hf : yrm.frames + 1 ≤ rm.frames) (hl : W + (ymx + 11) + yrm.locals ≤ rm.locals) (hc : cl + yrm.cells ≤ rm.cells) (hs : sl + yrm.slots ≤ rm.slots)
    (hr : ∀ T' h' v, own_Sx n0 K T' h' (cl + yrm.cells) (sl + yrm.slots) → Q v h' → own_Fin n0 K P T' pc' L (v.toList ++ rest)) : own_Fin n0 K P T pc L S := by
  obtain ⟨p, l, e, R, s, m, args, below, meth, c⟩ := K
  obtain ⟨hx, hby, hml, hown, hret, hlk, hZ, rfl, hw⟩ := M
  obtain ⟨locs, X, hN, eT, hn, hcl, hsl⟩ := X
  subst hnr
  obtain ⟨v, vm1, ⟨T1, L1, k1, n1⟩, -, X1, ⟨Lc, hQ, l1, y1, z1⟩, st⟩ := X.specialBack hx (y := y) hnm hown (mvT hZ w1) (mvT hZ w2) (mvT hZ w4) hy (backOf (W := W) (Q := fun v h L => Q v h ∧ Fr n0 L) (hM []) hZ w4 w3 hf hl) (g := mkF m pc L S) rfl (by rw [hml]; exact hL) (Steps.refl _) (a := a) (argsL := argsL) (rest := rest) (lenOf hpd hlen) hS (by show 2 * 0 + _ ≤ W; omega) (hb hby hd) (fun _ _ => ⟨rfl, eT, hc, hs⟩)
  dsimp only [Pt.U, Pt.locs, Pt.cells, Pt.slots] at X1 l1 y1 z1 st hQ
  subst l1 y1 z1 hp
  obtain ⟨s2, o2, st2, r⟩ := hr T1 _ v ⟨_, X1, Fr.app hN hQ.2, rfl, hn, hc, hs⟩ hQ.1
  exact ⟨s2, o2, st.trans st2, r⟩
theorem own_callV (M : own_Mx Z a0 K code own mx ret rm) (X : own_Sx n0 K T h cl sl) {y : MethodName} {ycode : ByteArray} {ymx : Nat} {yret : Option FieldType} {yrm : Room} {idx : Nat} {Q : Option Value → Heap → Prop} {ps : List FieldType} {yr : Option FieldType} {a : Addr} (argsL : List Value)
    (w1 : (Jvm.Cond.methodLink own idx y).before a0 Z = true) (w2 : (Jvm.Cond.instanceMethod y).before a0 Z = true) (w5 : (Jvm.Cond.declares y).before a0 Z = true) (w6 : (Jvm.Cond.selects y.cls y y).before a0 Z = true) (w3 : (Jvm.Cond.initialized y.cls).before a0 Z = true) (w4 : (Jvm.Cond.code y ycode ymx yret).before a0 Z = true) (hy : y.cls ≠ "java/lang/invoke/MethodHandle" ∧ y.cls ≠ "java/lang/invoke/VarHandle") (E : Exa Z h a y.cls)
    (hM : own_Met K.2.1 Z n0 y ycode ymx yret yrm (.ref a :: argsL).toArray h Q) (hL : L.size = mx) (hd : decode code pc = .ok (.invokevirtual idx, 3)) (hp : pc + 3 = pc') (hpd : parseMethodDescriptor y.desc = some ⟨ps, yr⟩) (hlen : argsL.length = ps.length) (hS : S = argsL.reverse ++ .ref a :: rest)
    (W : Nat) (hW : (rest.map fun v => v.category).sum ≤ W) (hf : yrm.frames + 1 ≤ rm.frames) (hl : W + (ymx + 11) + yrm.locals ≤ rm.locals) (hc : cl + yrm.cells ≤ rm.cells) (hs : sl + yrm.slots ≤ rm.slots)
    (hr : ∀ T' h' v, own_Sx n0 K T' h' (cl + yrm.cells) (sl + yrm.slots) → Q v h' → own_Fin n0 K P T' pc' L (v.toList ++ rest)) : own_Fin n0 K P T pc L S := by
  obtain ⟨p, l, e, R, s, m, args, below, meth, c⟩ := K
  obtain ⟨hx, hby, hml, hown, hret, hlk, hZ, rfl, hw⟩ := M
  obtain ⟨locs, X, hN, eT, hn, hcl, hsl⟩ := X
  obtain ⟨cq, kq, qa, qb, qc⟩ := isOf hZ eT E
  obtain ⟨v, vm1, ⟨T1, L1, k1, n1⟩, -, X1, ⟨Lc, hQ, l1, y1, z1⟩, st⟩ := X.virtualBack hx (y := y) (z := y) hown (mvT hZ w1) (mvT hZ w5) (notFace_of_selects (args := #[]) (mvT hZ w6)) (mvT hZ w6) (mvT hZ w2) hy (backOf (W := W) (Q := fun v h L => Q v h ∧ Fr n0 L) (hM []) hZ w4 w3 hf hl) qa qc (g := mkF m pc L S) rfl (by rw [hml]; exact hL) (Steps.refl _) (argsL := argsL) (rest := rest) (lenOf hpd hlen) hS (by show 2 * 0 + _ ≤ W; omega) (hb hby hd) (fun _ _ => ⟨rfl, eT, hc, hs⟩)
  dsimp only [Pt.U, Pt.locs, Pt.cells, Pt.slots] at X1 l1 y1 z1 st hQ
  subst l1 y1 z1 hp
  obtain ⟨s2, o2, st2, r⟩ := hr T1 _ v ⟨_, X1, Fr.app hN hQ.2, rfl, hn, hc, hs⟩ hQ.1
  exact ⟨s2, o2, st.trans st2, r⟩
theorem own_selPriv {s : State} {args : Array Value} {n : Nat} {y : MethodName} (hins : (Jvm.Cond.instantiable y.cls n).before args s = true) (hpriv : (Jvm.Cond.privateMethod y).before args s = true) (hinst : (Jvm.Cond.instanceMethod y).before args s = true) (hy : y.cls ≠ "java/lang/invoke/MethodHandle" ∧ y.cls ≠ "java/lang/invoke/VarHandle") : (Jvm.Cond.selects y.cls y y).before args s = true := by
  obtain ⟨c, k, hc, hk, -, hniab, -, -⟩ := Cond.instantiable_spec hins
  have hni : k.isInterface = false := (Bool.or_eq_false_iff.mp hniab).1
  obtain ⟨mk, methM, hnamed, hmethM, -, -⟩ := Cond.instanceMethod_spec hinst
  have hfound : s.methodFound? y.cls y.name y.desc = some mk := State.methodFound?_of_named hnamed hy
  have hcls : mk.cls = c := Option.some.inj ((findClass_of_methodNamed hnamed).symm.trans hc)
  have hsel : selectMethod {} s.vm c mk = .method mk := selectMethod_private hmethM (Cond.privateMethod_at hpriv mk methM hnamed hmethM)
  simp only [Cond.before, Cond.holds, Cond.value, hc, hfound, hnamed, hsel, hcls, hk]
  simp; exact hni
theorem own_callPriv (M : own_Mx Z a0 K code own mx ret rm) (X : own_Sx n0 K T h cl sl) {y : MethodName} {ycode : ByteArray} {ymx : Nat} {yret : Option FieldType} {yrm : Room} {idx : Nat} {Q : Option Value → Heap → Prop} {ps : List FieldType} {yr : Option FieldType} {a : Addr} (argsL : List Value)
    (w1 : (Jvm.Cond.methodLink own idx y).before a0 Z = true) (w2 : (Jvm.Cond.instanceMethod y).before a0 Z = true) (w5 : (Jvm.Cond.privateMethod y).before a0 Z = true) {kk : Nat} (w6 : (Jvm.Cond.instantiable y.cls kk).before a0 Z = true) (w3 : (Jvm.Cond.initialized y.cls).before a0 Z = true) (w4 : (Jvm.Cond.code y ycode ymx yret).before a0 Z = true) (hy : y.cls ≠ "java/lang/invoke/MethodHandle" ∧ y.cls ≠ "java/lang/invoke/VarHandle") (E : Exa Z h a y.cls)
    (hM : own_Met K.2.1 Z n0 y ycode ymx yret yrm (.ref a :: argsL).toArray h Q) (hL : L.size = mx) (hd : decode code pc = .ok (.invokevirtual idx, 3)) (hp : pc + 3 = pc') (hpd : parseMethodDescriptor y.desc = some ⟨ps, yr⟩) (hlen : argsL.length = ps.length) (hS : S = argsL.reverse ++ .ref a :: rest)
    (W : Nat) (hW : (rest.map fun v => v.category).sum ≤ W) (hf : yrm.frames + 1 ≤ rm.frames) (hl : W + (ymx + 11) + yrm.locals ≤ rm.locals) (hc : cl + yrm.cells ≤ rm.cells) (hs : sl + yrm.slots ≤ rm.slots)
    (hr : ∀ T' h' v, own_Sx n0 K T' h' (cl + yrm.cells) (sl + yrm.slots) → Q v h' → own_Fin n0 K P T' pc' L (v.toList ++ rest)) : own_Fin n0 K P T pc L S := by
  obtain ⟨p, l, e, R, s, m, args, below, meth, c⟩ := K
  obtain ⟨hx, hby, hml, hown, hret, hlk, hZ, rfl, hw⟩ := M
  obtain ⟨locs, X, hN, eT, hn, hcl, hsl⟩ := X
  obtain ⟨cq, qa, qb⟩ := E.cell
  obtain ⟨v, vm1, ⟨T1, L1, k1, n1⟩, -, X1, ⟨Lc, hQ, l1, y1, z1⟩, st⟩ := X.privateBack hx (y := y) hown (mvT hZ w1) (mvT hZ w2) (own_selPriv (mvT hZ w6) (mvP hZ w5) (mvT hZ w2) hy) (Cond.privateMethod_at (mvP hZ w5 (args := #[]))) (mvT hZ w4) hy (backOf (W := W) (Q := fun v h L => Q v h ∧ Fr n0 L) (hM []) hZ w4 w3 hf hl) (g := mkF m pc L S) rfl (by rw [hml]; exact hL) (Steps.refl _) (a := a) (by rw [eT]; exact qa) qb (argsL := argsL) (rest := rest) (lenOf hpd hlen) hS (by show 2 * 0 + _ ≤ W; omega) (hb hby hd) (fun _ _ => ⟨rfl, eT, hc, hs⟩)
  dsimp only [Pt.U, Pt.locs, Pt.cells, Pt.slots] at X1 l1 y1 z1 st hQ
  subst l1 y1 z1 hp
  obtain ⟨s2, o2, st2, r⟩ := hr T1 _ v ⟨_, X1, Fr.app hN hQ.2, rfl, hn, hc, hs⟩ hQ.1
  exact ⟨s2, o2, st.trans st2, r⟩
theorem own_callNP0 (M : own_Mx Z a0 K code own mx ret rm) (X : own_Sx n0 K T h cl sl) {y : MethodName} {ycode : ByteArray} {ymx : Nat} {yret : Option FieldType} {yrm : Room} {idx : Nat} {ps : List FieldType} {yr : Option FieldType} {a : Addr} (argsL : List Value)
    (w1 : (Jvm.Cond.methodLink own idx y).before a0 Z = true) (w2 : (Jvm.Cond.instanceMethod y).before a0 Z = true) (w3 : (Jvm.Cond.initialized y.cls).before a0 Z = true) (w4 : (Jvm.Cond.code y ycode ymx yret).before a0 Z = true) (hy : y.cls ≠ "java/lang/invoke/MethodHandle" ∧ y.cls ≠ "java/lang/invoke/VarHandle") (hnm : y.name = "<init>") (hnr : yret = none)
    (hM : own_Met K.2.1 Z n0 y ycode ymx yret yrm (.ref a :: argsL).toArray h (fun v h' => v = none ∧ h' = h)) (hL : L.size = mx) (hd : decode code pc = .ok (.invokespecial idx, 3)) (hp : pc + 3 = pc') (hpd : parseMethodDescriptor y.desc = some ⟨ps, yr⟩) (hlen : argsL.length = ps.length) (hS : S = argsL.reverse ++ .ref a :: rest)
    (W : Nat) (hW : (rest.map fun v => v.category).sum ≤ W) (hf : yrm.frames + 1 ≤ rm.frames) (hl : W + (ymx + 11) + yrm.locals ≤ rm.locals) (hc0 : yrm.cells = 0) (hs0 : yrm.slots = 0)
    (hr : ∀ T', own_Sx n0 K T' h cl sl → own_Fin n0 K P T' pc' L (rest)) : own_Fin n0 K P T pc L S := by
  have hcs : cl ≤ rm.cells ∧ sl ≤ rm.slots := by
    obtain ⟨p, l, e, R, s, m, args, below, meth, c⟩ := K
    obtain ⟨hx, hby, hml, hown, hret, hlk, hZ, rfl, hw⟩ := M
    obtain ⟨locs, X, hN, eT, hn, hcl, hsl⟩ := X
    exact ⟨hcl, hsl⟩
  refine own_callN M X argsL w1 w2 w3 w4 hy hnm hnr hM hL hd hp hpd hlen hS W hW hf hl (by rw [hc0]; exact hcs.1) (by rw [hs0]; exact hcs.2) ?_
  rintro T' h' v X' ⟨rfl, rfl⟩
  rw [hc0, hs0] at X'
  exact hr T' X'
theorem own_callVP (M : own_Mx Z a0 K code own mx ret rm) (X : own_Sx n0 K T h cl sl) {y : MethodName} {ycode : ByteArray} {ymx : Nat} {yret : Option FieldType} {yrm : Room} {idx : Nat} {ps : List FieldType} {yr : Option FieldType} {a : Addr} {w : Value} (argsL : List Value)
    (w1 : (Jvm.Cond.methodLink own idx y).before a0 Z = true) (w2 : (Jvm.Cond.instanceMethod y).before a0 Z = true) (w5 : (Jvm.Cond.declares y).before a0 Z = true) (w6 : (Jvm.Cond.selects y.cls y y).before a0 Z = true) (w3 : (Jvm.Cond.initialized y.cls).before a0 Z = true) (w4 : (Jvm.Cond.code y ycode ymx yret).before a0 Z = true) (hy : y.cls ≠ "java/lang/invoke/MethodHandle" ∧ y.cls ≠ "java/lang/invoke/VarHandle") (E : Exa Z h a y.cls)
    (hM : own_Met K.2.1 Z n0 y ycode ymx yret yrm (.ref a :: argsL).toArray h (fun v h' => v = some w ∧ h' = h)) (hL : L.size = mx) (hd : decode code pc = .ok (.invokevirtual idx, 3)) (hp : pc + 3 = pc') (hpd : parseMethodDescriptor y.desc = some ⟨ps, yr⟩) (hlen : argsL.length = ps.length) (hS : S = argsL.reverse ++ .ref a :: rest)
    (W : Nat) (hW : (rest.map fun v => v.category).sum ≤ W) (hf : yrm.frames + 1 ≤ rm.frames) (hl : W + (ymx + 11) + yrm.locals ≤ rm.locals) (hc0 : yrm.cells = 0) (hs0 : yrm.slots = 0)
    (hr : ∀ T', own_Sx n0 K T' h cl sl → own_Fin n0 K P T' pc' L (w :: rest)) : own_Fin n0 K P T pc L S := by
  have hcs : cl ≤ rm.cells ∧ sl ≤ rm.slots := by
    obtain ⟨p, l, e, R, s, m, args, below, meth, c⟩ := K
    obtain ⟨hx, hby, hml, hown, hret, hlk, hZ, rfl, hw⟩ := M
    obtain ⟨locs, X, hN, eT, hn, hcl, hsl⟩ := X
    exact ⟨hcl, hsl⟩
  refine own_callV M X argsL w1 w2 w5 w6 w3 w4 hy E hM hL hd hp hpd hlen hS W hW hf hl (by rw [hc0]; exact hcs.1) (by rw [hs0]; exact hcs.2) ?_
  rintro T' h' v X' ⟨rfl, rfl⟩
  rw [hc0, hs0] at X'
  exact hr T' X'
theorem own_callVP0 (M : own_Mx Z a0 K code own mx ret rm) (X : own_Sx n0 K T h cl sl) {y : MethodName} {ycode : ByteArray} {ymx : Nat} {yret : Option FieldType} {yrm : Room} {idx : Nat} {ps : List FieldType} {yr : Option FieldType} {a : Addr} (argsL : List Value)
    (w1 : (Jvm.Cond.methodLink own idx y).before a0 Z = true) (w2 : (Jvm.Cond.instanceMethod y).before a0 Z = true) (w5 : (Jvm.Cond.declares y).before a0 Z = true) (w6 : (Jvm.Cond.selects y.cls y y).before a0 Z = true) (w3 : (Jvm.Cond.initialized y.cls).before a0 Z = true) (w4 : (Jvm.Cond.code y ycode ymx yret).before a0 Z = true) (hy : y.cls ≠ "java/lang/invoke/MethodHandle" ∧ y.cls ≠ "java/lang/invoke/VarHandle") (E : Exa Z h a y.cls)
    (hM : own_Met K.2.1 Z n0 y ycode ymx yret yrm (.ref a :: argsL).toArray h (fun v h' => v = none ∧ h' = h)) (hL : L.size = mx) (hd : decode code pc = .ok (.invokevirtual idx, 3)) (hp : pc + 3 = pc') (hpd : parseMethodDescriptor y.desc = some ⟨ps, yr⟩) (hlen : argsL.length = ps.length) (hS : S = argsL.reverse ++ .ref a :: rest)
    (W : Nat) (hW : (rest.map fun v => v.category).sum ≤ W) (hf : yrm.frames + 1 ≤ rm.frames) (hl : W + (ymx + 11) + yrm.locals ≤ rm.locals) (hc0 : yrm.cells = 0) (hs0 : yrm.slots = 0)
    (hr : ∀ T', own_Sx n0 K T' h cl sl → own_Fin n0 K P T' pc' L (rest)) : own_Fin n0 K P T pc L S := by
  have hcs : cl ≤ rm.cells ∧ sl ≤ rm.slots := by
    obtain ⟨p, l, e, R, s, m, args, below, meth, c⟩ := K
    obtain ⟨hx, hby, hml, hown, hret, hlk, hZ, rfl, hw⟩ := M
    obtain ⟨locs, X, hN, eT, hn, hcl, hsl⟩ := X
    exact ⟨hcl, hsl⟩
  refine own_callV M X argsL w1 w2 w5 w6 w3 w4 hy E hM hL hd hp hpd hlen hS W hW hf hl (by rw [hc0]; exact hcs.1) (by rw [hs0]; exact hcs.2) ?_
  rintro T' h' v X' ⟨rfl, rfl⟩
  rw [hc0, hs0] at X'
  exact hr T' X'
theorem own_callPrivP (M : own_Mx Z a0 K code own mx ret rm) (X : own_Sx n0 K T h cl sl) {y : MethodName} {ycode : ByteArray} {ymx : Nat} {yret : Option FieldType} {yrm : Room} {idx : Nat} {ps : List FieldType} {yr : Option FieldType} {a : Addr} {w : Value} (argsL : List Value)
    (w1 : (Jvm.Cond.methodLink own idx y).before a0 Z = true) (w2 : (Jvm.Cond.instanceMethod y).before a0 Z = true) (w5 : (Jvm.Cond.privateMethod y).before a0 Z = true) {kk : Nat} (w6 : (Jvm.Cond.instantiable y.cls kk).before a0 Z = true) (w3 : (Jvm.Cond.initialized y.cls).before a0 Z = true) (w4 : (Jvm.Cond.code y ycode ymx yret).before a0 Z = true) (hy : y.cls ≠ "java/lang/invoke/MethodHandle" ∧ y.cls ≠ "java/lang/invoke/VarHandle") (E : Exa Z h a y.cls)
    (hM : own_Met K.2.1 Z n0 y ycode ymx yret yrm (.ref a :: argsL).toArray h (fun v h' => v = some w ∧ h' = h)) (hL : L.size = mx) (hd : decode code pc = .ok (.invokevirtual idx, 3)) (hp : pc + 3 = pc') (hpd : parseMethodDescriptor y.desc = some ⟨ps, yr⟩) (hlen : argsL.length = ps.length) (hS : S = argsL.reverse ++ .ref a :: rest)
    (W : Nat) (hW : (rest.map fun v => v.category).sum ≤ W) (hf : yrm.frames + 1 ≤ rm.frames) (hl : W + (ymx + 11) + yrm.locals ≤ rm.locals) (hc0 : yrm.cells = 0) (hs0 : yrm.slots = 0)
    (hr : ∀ T', own_Sx n0 K T' h cl sl → own_Fin n0 K P T' pc' L (w :: rest)) : own_Fin n0 K P T pc L S := by
  have hcs : cl ≤ rm.cells ∧ sl ≤ rm.slots := by
    obtain ⟨p, l, e, R, s, m, args, below, meth, c⟩ := K
    obtain ⟨hx, hby, hml, hown, hret, hlk, hZ, rfl, hw⟩ := M
    obtain ⟨locs, X, hN, eT, hn, hcl, hsl⟩ := X
    exact ⟨hcl, hsl⟩
  refine own_callPriv M X argsL w1 w2 w5 w6 w3 w4 hy E hM hL hd hp hpd hlen hS W hW hf hl (by rw [hc0]; exact hcs.1) (by rw [hs0]; exact hcs.2) ?_
  rintro T' h' v X' ⟨rfl, rfl⟩
  rw [hc0, hs0] at X'
  exact hr T' X'
theorem own_callPrivP0 (M : own_Mx Z a0 K code own mx ret rm) (X : own_Sx n0 K T h cl sl) {y : MethodName} {ycode : ByteArray} {ymx : Nat} {yret : Option FieldType} {yrm : Room} {idx : Nat} {ps : List FieldType} {yr : Option FieldType} {a : Addr} (argsL : List Value)
    (w1 : (Jvm.Cond.methodLink own idx y).before a0 Z = true) (w2 : (Jvm.Cond.instanceMethod y).before a0 Z = true) (w5 : (Jvm.Cond.privateMethod y).before a0 Z = true) {kk : Nat} (w6 : (Jvm.Cond.instantiable y.cls kk).before a0 Z = true) (w3 : (Jvm.Cond.initialized y.cls).before a0 Z = true) (w4 : (Jvm.Cond.code y ycode ymx yret).before a0 Z = true) (hy : y.cls ≠ "java/lang/invoke/MethodHandle" ∧ y.cls ≠ "java/lang/invoke/VarHandle") (E : Exa Z h a y.cls)
    (hM : own_Met K.2.1 Z n0 y ycode ymx yret yrm (.ref a :: argsL).toArray h (fun v h' => v = none ∧ h' = h)) (hL : L.size = mx) (hd : decode code pc = .ok (.invokevirtual idx, 3)) (hp : pc + 3 = pc') (hpd : parseMethodDescriptor y.desc = some ⟨ps, yr⟩) (hlen : argsL.length = ps.length) (hS : S = argsL.reverse ++ .ref a :: rest)
    (W : Nat) (hW : (rest.map fun v => v.category).sum ≤ W) (hf : yrm.frames + 1 ≤ rm.frames) (hl : W + (ymx + 11) + yrm.locals ≤ rm.locals) (hc0 : yrm.cells = 0) (hs0 : yrm.slots = 0)
    (hr : ∀ T', own_Sx n0 K T' h cl sl → own_Fin n0 K P T' pc' L (rest)) : own_Fin n0 K P T pc L S := by
  have hcs : cl ≤ rm.cells ∧ sl ≤ rm.slots := by
    obtain ⟨p, l, e, R, s, m, args, below, meth, c⟩ := K
    obtain ⟨hx, hby, hml, hown, hret, hlk, hZ, rfl, hw⟩ := M
    obtain ⟨locs, X, hN, eT, hn, hcl, hsl⟩ := X
    exact ⟨hcl, hsl⟩
  refine own_callPriv M X argsL w1 w2 w5 w6 w3 w4 hy E hM hL hd hp hpd hlen hS W hW hf hl (by rw [hc0]; exact hcs.1) (by rw [hs0]; exact hcs.2) ?_
  rintro T' h' v X' ⟨rfl, rfl⟩
  rw [hc0, hs0] at X'
  exact hr T' X'
theorem own_Va.arv {a : Addr} {ty : FieldType} {n : Nat} {f : Nat → Value} (V : own_Va Z h a ty n f) : ∃ k, ∀ dv, Arv Z h a k ty (Int32.ofNat n) ((List.range n).map f) dv := by
  obtain ⟨c, A, r1, r2, r3, r4⟩ := V
  have e : (Int32.ofNat n).toInt = n := Int32.toInt_ofNat_of_lt r2
  have g : ∀ dv j, j < n → ((List.range n).map f).getD j dv = f j := fun dv j hj => by simp [List.getD, hj]
  refine ⟨c.cls, fun dv => ⟨c, A, rfl, by rw [own_nat e]; exact r1, by rw [Int32.lt_iff_toInt_lt, e, Int32.toInt_zero]; omega, fun j hj => ?_, fun j hj => ?_⟩⟩
  · rw [g dv j (by omega)]; exact r3 j (by omega)
  · rw [g dv j (by omega)]; exact r4 j (by omega)
theorem own_Va.of_arv {a : Addr} {ty : FieldType} {n : Nat} {k : ClassId} {z : Int32} {vs : List Value} {dv : Value} {f : Nat → Value} (V : Arv Z h a k ty z vs dv) (hz : z.toInt = n) (hf : ∀ j, j < n → vs.getD j dv = f j) : own_Va Z h a ty n f := by
  obtain ⟨c, A, -, S, -, H, G⟩ := V
  rw [own_nat hz] at S
  exact ⟨c, A, S, by have := z.toInt_lt; omega, fun j hj => by rw [← hf j hj]; exact H j (by omega), fun j hj => by rw [← hf j hj]; exact G j (by omega)⟩
theorem own_cpl {α : Type} (f g : Nat → α) (na nb i j k t : Nat) (h4 : i + k ≤ na) (h5 : j + k ≤ nb) (ht : t < nb) (d : α) :
    (((List.range nb).map g).take j ++ (List.range k).map (fun q => ((List.range na).map f).getD (i + q) d) ++ ((List.range nb).map g).drop (j + k)).getD t d = if j ≤ t ∧ t < j + k then f (i + (t - j)) else g t := by
  have e1 : min j nb = j := by omega
  rw [List.getD_eq_getElem?_getD, List.getElem?_append, List.getElem?_append]
  simp only [List.length_append, List.length_take, List.length_map, List.length_range, e1]
  by_cases q1 : t < j
  · have n1 : ¬ (j ≤ t ∧ t < j + k) := by omega
    have n2 : t < j + k := by omega
    rw [if_neg n1, if_pos n2, if_pos q1, List.getElem?_take, if_pos q1]
    simp [ht]
  · by_cases q2 : t < j + k
    · have n1 : j ≤ t ∧ t < j + k := by omega
      have n2 : t - j < k := by omega
      have n3 : i + (t - j) < na := by omega
      rw [if_pos n1, if_pos q2, if_neg q1]
      simp [n2, n3]
    · have n1 : ¬ (j ≤ t ∧ t < j + k) := by omega
      have n3 : j + k + (t - (j + k)) = t := by omega
      rw [if_neg n1, if_neg q2, List.getElem?_drop, n3]
      simp [ht]
theorem own_arraycopy (M : own_Mx Z a0 K code own mx ret rm) (X : own_Sx n0 K T h cl sl) {idx : Nat} {a b : Addr} {ty : FieldType} {na nb i j k : Nat} {f g : Nat → Value} {sp dp nn : Int32}
    (w1 : (Jvm.Cond.methodLink own idx Jvm.Stand.acN).before a0 Z = true) (w2 : (Jvm.Cond.native Jvm.Stand.acN).before a0 Z = true) (w3 : (Jvm.Cond.static Jvm.Stand.acN).before a0 Z = true) (w4 : (Jvm.Cond.initialized "java/lang/System").before a0 Z = true)
    (A : own_Va Z h a ty na f) (B : own_Va Z h b ty nb g) (hty : refKind ty = false) (hsp : sp.toInt = i) (hdp : dp.toInt = j) (hnn : nn.toInt = k) (h4 : i + k ≤ na) (h5 : j + k ≤ nb) (hgb : n0 ≤ b) (hL : L.size = mx) (hd : decode code pc = .ok (.invokestatic idx, 3)) (hp : pc + 3 = pc')
    (hf : 1 ≤ rm.frames) (W : Nat) (hW : (S.map fun v => v.category).sum ≤ W) (hlo : W + 18 ≤ rm.locals)
    (hr : ∀ T' h', own_Sx n0 K T' h' cl sl → Keep h h' [b] → own_Va Z h' b ty nb (fun t => if j ≤ t ∧ t < j + k then f (i + (t - j)) else g t) → own_Fin n0 K P T' pc' L S) : own_Fin n0 K P T pc L (.int nn :: .int dp :: .ref b :: .int sp :: .ref a :: S) := by
  obtain ⟨p, l, e, R, s, m, args, below, meth, c⟩ := K
  obtain ⟨hx, hby, hml, hown, hret, hlk, hZ, rfl, hw⟩ := M
  obtain ⟨locs, X, hN, eT, hn, hcl, hsl⟩ := X
  have sa := A.small
  have sb := B.small
  obtain ⟨ka, A⟩ := A.arv
  obtain ⟨kb, B⟩ := B.arv
  have ea : (Int32.ofNat na).toInt = na := Int32.toInt_ofNat_of_lt sa
  have eb : (Int32.ofNat nb).toInt = nb := Int32.toInt_ofNat_of_lt sb
  have nneg : ∀ {x : Int32} {q : Nat}, x.toInt = q → ¬ x < 0 := fun {x q} z => by rw [Int32.lt_iff_toInt_lt, z, Int32.toInt_zero]; omega
  obtain ⟨T1, h1, L1, X1, e1, N1, K1, B1, st⟩ := cpA X hx hZ hown w1 w2 w3 w4 eT (A .null) (B .null) (Or.inl ⟨rfl, hty⟩) (nneg hsp) (nneg hdp) (nneg hnn) (by rw [own_nat hsp, own_nat hnn, own_nat ea]; exact h4) (by rw [own_nat hdp, own_nat hnn, own_nat eb]; exact h5) rfl (by simp [own_nat hdp, own_nat hnn]; exact h5) hN hgb (g := mkF m pc L (.int nn :: .int dp :: .ref b :: .int sp :: .ref a :: S)) rfl (by rw [hml]; exact hL) rfl (hb hby hd) hf (W := W) (by show 2 * 0 + _ ≤ W; omega) hlo
  subst hp
  obtain ⟨s2, o2, st2, r⟩ := hr T1 h1 ⟨_, X1, N1, e1, hn, hcl, hsl⟩ K1 (own_Va.of_arv B1 eb (fun t ht => by
    rw [own_nat hsp, own_nat hdp, own_nat hnn]
    exact own_cpl f g na nb i j k t h4 h5 ht .null))
  exact ⟨s2, o2, st _ st2, r⟩
end OwnLayer
theorem own_pd0 : parseMethodDescriptor "(III)Z" = some ⟨[.int, .int, .int], some .boolean⟩ := by decide +kernel
theorem own_pd1 : parseMethodDescriptor "(I)Z" = some ⟨[.int], some .boolean⟩ := by decide +kernel
theorem d1_0 : decode prog_1_method_10_code 0 = .ok (.iload_n 0, 1) := by decide +kernel
theorem d1_1 : decode prog_1_method_10_code 1 = .ok (.bipush 16, 2) := by decide +kernel
theorem d1_3 : decode prog_1_method_10_code 3 = .ok (.iushr, 1) := by decide +kernel
theorem d1_4 : decode prog_1_method_10_code 4 = .ok (.istore_n 1, 1) := by decide +kernel
theorem d1_5 : decode prog_1_method_10_code 5 = .ok (.iload_n 0, 1) := by decide +kernel
theorem d1_6 : decode prog_1_method_10_code 6 = .ok (.ldc 16, 2) := by decide +kernel
theorem d1_8 : decode prog_1_method_10_code 8 = .ok (.iand, 1) := by decide +kernel
theorem d1_9 : decode prog_1_method_10_code 9 = .ok (.istore_n 2, 1) := by decide +kernel
theorem d1_10 : decode prog_1_method_10_code 10 = .ok (.iload_n 0, 1) := by decide +kernel
theorem d1_11 : decode prog_1_method_10_code 11 = .ok (.sipush 160, 3) := by decide +kernel
theorem d1_14 : decode prog_1_method_10_code 14 = .ok (.if_icmp .lt 9, 3) := by decide +kernel
theorem d1_17 : decode prog_1_method_10_code 17 = .ok (.iload_n 0, 1) := by decide +kernel
theorem d1_18 : decode prog_1_method_10_code 18 = .ok (.ldc 17, 2) := by decide +kernel
theorem d1_20 : decode prog_1_method_10_code 20 = .ok (.if_icmp .le 63, 3) := by decide +kernel
theorem d1_23 : decode prog_1_method_10_code 23 = .ok (.iload_n 0, 1) := by decide +kernel
theorem d1_24 : decode prog_1_method_10_code 24 = .ok (.ldc 18, 2) := by decide +kernel
theorem d1_26 : decode prog_1_method_10_code 26 = .ok (.if_icmp .lt 9, 3) := by decide +kernel
theorem d1_29 : decode prog_1_method_10_code 29 = .ok (.iload_n 0, 1) := by decide +kernel
theorem d1_30 : decode prog_1_method_10_code 30 = .ok (.ldc 19, 2) := by decide +kernel
theorem d1_32 : decode prog_1_method_10_code 32 = .ok (.if_icmp .le 51, 3) := by decide +kernel
theorem d1_35 : decode prog_1_method_10_code 35 = .ok (.iload_n 0, 1) := by decide +kernel
theorem d1_36 : decode prog_1_method_10_code 36 = .ok (.ldc 20, 2) := by decide +kernel
theorem d1_38 : decode prog_1_method_10_code 38 = .ok (.if_icmp .lt 9, 3) := by decide +kernel
theorem d1_41 : decode prog_1_method_10_code 41 = .ok (.iload_n 0, 1) := by decide +kernel
theorem d1_42 : decode prog_1_method_10_code 42 = .ok (.ldc 21, 2) := by decide +kernel
theorem d1_44 : decode prog_1_method_10_code 44 = .ok (.if_icmp .le 39, 3) := by decide +kernel
theorem d1_47 : decode prog_1_method_10_code 47 = .ok (.iload_n 1, 1) := by decide +kernel
theorem d1_48 : decode prog_1_method_10_code 48 = .ok (.iconst 1, 1) := by decide +kernel
theorem d1_49 : decode prog_1_method_10_code 49 = .ok (.if_icmp .lt 15, 3) := by decide +kernel
theorem d1_52 : decode prog_1_method_10_code 52 = .ok (.iload_n 1, 1) := by decide +kernel
theorem d1_53 : decode prog_1_method_10_code 53 = .ok (.bipush 13, 2) := by decide +kernel
theorem d1_55 : decode prog_1_method_10_code 55 = .ok (.if_icmp .gt 9, 3) := by decide +kernel
theorem d1_58 : decode prog_1_method_10_code 58 = .ok (.iload_n 2, 1) := by decide +kernel
theorem d1_59 : decode prog_1_method_10_code 59 = .ok (.ldc 22, 2) := by decide +kernel
theorem d1_61 : decode prog_1_method_10_code 61 = .ok (.if_icmp .le 22, 3) := by decide +kernel
theorem d1_64 : decode prog_1_method_10_code 64 = .ok (.iload_n 1, 1) := by decide +kernel
theorem d1_65 : decode prog_1_method_10_code 65 = .ok (.bipush 14, 2) := by decide +kernel
theorem d1_67 : decode prog_1_method_10_code 67 = .ok (.if_icmp .ne 20, 3) := by decide +kernel
theorem d1_70 : decode prog_1_method_10_code 70 = .ok (.iload_n 2, 1) := by decide +kernel
theorem d1_71 : decode prog_1_method_10_code 71 = .ok (.sipush 4096, 3) := by decide +kernel
theorem d1_74 : decode prog_1_method_10_code 74 = .ok (.if_icmp .lt 13, 3) := by decide +kernel
theorem d1_77 : decode prog_1_method_10_code 77 = .ok (.iload_n 2, 1) := by decide +kernel
theorem d1_78 : decode prog_1_method_10_code 78 = .ok (.ldc 22, 2) := by decide +kernel
theorem d1_80 : decode prog_1_method_10_code 80 = .ok (.if_icmp .gt 7, 3) := by decide +kernel
theorem d1_83 : decode prog_1_method_10_code 83 = .ok (.iconst 1, 1) := by decide +kernel
theorem d1_84 : decode prog_1_method_10_code 84 = .ok (.goto 4, 3) := by decide +kernel
theorem d1_87 : decode prog_1_method_10_code 87 = .ok (.iconst 0, 1) := by decide +kernel
theorem d1_88 : decode prog_1_method_10_code 88 = .ok (.ireturn, 1) := by decide +kernel
def T1_64 (u1 : Int32) (u2 : Int32) : Int32 := (if u1 = (14 : Int32) then (if u2 < (4096 : Int32) then (0 : Int32) else (if (65533 : Int32) < u2 then (0 : Int32) else (1 : Int32))) else (0 : Int32))
set_option maxRecDepth 65536 in
set_option maxHeartbeats 40000000 in
theorem tl1_64 (l : Launch) (Z : State) (a0 : Array Value) (hw : ∀ d ∈ tables_1, d.before a0 Z = true) {n0 : Nat} {K : own_Cx} {P : Option Value → Heap → Prop} {T : State} {h : Heap} (M : own_Mx Z a0 K prog_1_method_10_code "com/example/tunnus/tunnus/CharClasses" 3 (some .boolean) ({ frames := 0, cells := 0, slots := 0, locals := 0 } : Room)) (X : own_Sx n0 K T h 0 0) (u0 : Int32) (u1 : Int32) (u2 : Int32)
    (hP : P (some (.int (T1_64 u1 u2))) h) : own_Fin n0 K P T 64 #[.val (.int u0), .val (.int u1), .val (.int u2)] [] := by
  refine own_iloadN M X d1_64 rfl rfl ?_
  refine own_bipush M X (v := (14 : Int32)) d1_65 rfl rfl ?_
  refine own_icmp_ne M X d1_67 (by decide) rfl rfl (fun q1 => ?_) (fun q1 => ?_)
  · skip
    refine own_iconst M X (v := (0 : Int32)) d1_87 rfl rfl ?_
    exact own_retN M X (z' := (0 : Int32)) (by simp) d1_88 rfl (by rw [T1_64, if_neg q1] at hP; exact hP)
  · skip
    refine own_iloadN M X d1_70 rfl rfl ?_
    refine own_sipush M X (v := (4096 : Int32)) d1_71 rfl rfl ?_
    refine own_icmp_lt M X d1_74 (by decide) rfl rfl (fun q2 => ?_) (fun q2 => ?_)
    · skip
      refine own_iconst M X (v := (0 : Int32)) d1_87 rfl rfl ?_
      exact own_retN M X (z' := (0 : Int32)) (by simp) d1_88 rfl (by rw [T1_64, if_pos q1, if_pos q2] at hP; exact hP)
    · skip
      refine own_iloadN M X d1_77 rfl rfl ?_
      refine own_ldc M X (hw _ (List.mem_of_getElem? (i := 57) rfl)) d1_78 rfl ?_
      refine own_icmp_gt M X d1_80 (by decide) rfl rfl (fun q3 => ?_) (fun q3 => ?_)
      · skip
        refine own_iconst M X (v := (0 : Int32)) d1_87 rfl rfl ?_
        exact own_retN M X (z' := (0 : Int32)) (by simp) d1_88 rfl (by rw [T1_64, if_pos q1, if_neg q2, if_pos q3] at hP; exact hP)
      · skip
        refine own_iconst M X (v := (1 : Int32)) d1_83 rfl rfl ?_
        refine own_goto M X d1_84 (by decide) rfl ?_
        exact own_retN M X (z' := (1 : Int32)) (by simp) d1_88 rfl (by rw [T1_64, if_pos q1, if_neg q2, if_neg q3] at hP; exact hP)
def T1_47 (u1 : Int32) (u2 : Int32) : Int32 := (if u1 < (1 : Int32) then (T1_64 u1 u2) else (if (13 : Int32) < u1 then (T1_64 u1 u2) else (if (65533 : Int32) < u2 then (T1_64 u1 u2) else (1 : Int32))))
set_option maxRecDepth 65536 in
set_option maxHeartbeats 40000000 in
theorem tl1_47 (l : Launch) (Z : State) (a0 : Array Value) (hw : ∀ d ∈ tables_1, d.before a0 Z = true) {n0 : Nat} {K : own_Cx} {P : Option Value → Heap → Prop} {T : State} {h : Heap} (M : own_Mx Z a0 K prog_1_method_10_code "com/example/tunnus/tunnus/CharClasses" 3 (some .boolean) ({ frames := 0, cells := 0, slots := 0, locals := 0 } : Room)) (X : own_Sx n0 K T h 0 0) (u0 : Int32) (u1 : Int32) (u2 : Int32)
    (hP : P (some (.int (T1_47 u1 u2))) h) : own_Fin n0 K P T 47 #[.val (.int u0), .val (.int u1), .val (.int u2)] [] := by
  refine own_iloadN M X d1_47 rfl rfl ?_
  refine own_iconst M X (v := (1 : Int32)) d1_48 rfl rfl ?_
  refine own_icmp_lt M X d1_49 (by decide) rfl rfl (fun q1 => ?_) (fun q1 => ?_)
  · skip
    exact tl1_64 l Z a0 hw M X u0 u1 u2 (by rw [T1_47, if_pos q1] at hP; exact hP)
  · skip
    refine own_iloadN M X d1_52 rfl rfl ?_
    refine own_bipush M X (v := (13 : Int32)) d1_53 rfl rfl ?_
    refine own_icmp_gt M X d1_55 (by decide) rfl rfl (fun q2 => ?_) (fun q2 => ?_)
    · skip
      exact tl1_64 l Z a0 hw M X u0 u1 u2 (by rw [T1_47, if_neg q1, if_pos q2] at hP; exact hP)
    · skip
      refine own_iloadN M X d1_58 rfl rfl ?_
      refine own_ldc M X (hw _ (List.mem_of_getElem? (i := 57) rfl)) d1_59 rfl ?_
      refine own_icmp_le M X d1_61 (by decide) rfl rfl (fun q3 => ?_) (fun q3 => ?_)
      · skip
        refine own_iconst M X (v := (1 : Int32)) d1_83 rfl rfl ?_
        refine own_goto M X d1_84 (by decide) rfl ?_
        exact own_retN M X (z' := (1 : Int32)) (by simp) d1_88 rfl (by rw [T1_47, if_neg q1, if_neg q2, if_neg q3] at hP; exact hP)
      · skip
        exact tl1_64 l Z a0 hw M X u0 u1 u2 (by rw [T1_47, if_neg q1, if_neg q2, if_pos q3] at hP; exact hP)
def T1_35 (u0 : Int32) (u1 : Int32) (u2 : Int32) : Int32 := (if u0 < (65008 : Int32) then (T1_47 u1 u2) else (if (65519 : Int32) < u0 then (T1_47 u1 u2) else (1 : Int32)))
set_option maxRecDepth 65536 in
set_option maxHeartbeats 40000000 in
theorem tl1_35 (l : Launch) (Z : State) (a0 : Array Value) (hw : ∀ d ∈ tables_1, d.before a0 Z = true) {n0 : Nat} {K : own_Cx} {P : Option Value → Heap → Prop} {T : State} {h : Heap} (M : own_Mx Z a0 K prog_1_method_10_code "com/example/tunnus/tunnus/CharClasses" 3 (some .boolean) ({ frames := 0, cells := 0, slots := 0, locals := 0 } : Room)) (X : own_Sx n0 K T h 0 0) (u0 : Int32) (u1 : Int32) (u2 : Int32)
    (hP : P (some (.int (T1_35 u0 u1 u2))) h) : own_Fin n0 K P T 35 #[.val (.int u0), .val (.int u1), .val (.int u2)] [] := by
  refine own_iloadN M X d1_35 rfl rfl ?_
  refine own_ldc M X (hw _ (List.mem_of_getElem? (i := 19) rfl)) d1_36 rfl ?_
  refine own_icmp_lt M X d1_38 (by decide) rfl rfl (fun q1 => ?_) (fun q1 => ?_)
  · skip
    exact tl1_47 l Z a0 hw M X u0 u1 u2 (by rw [T1_35, if_pos q1] at hP; exact hP)
  · skip
    refine own_iloadN M X d1_41 rfl rfl ?_
    refine own_ldc M X (hw _ (List.mem_of_getElem? (i := 56) rfl)) d1_42 rfl ?_
    refine own_icmp_le M X d1_44 (by decide) rfl rfl (fun q2 => ?_) (fun q2 => ?_)
    · skip
      refine own_iconst M X (v := (1 : Int32)) d1_83 rfl rfl ?_
      refine own_goto M X d1_84 (by decide) rfl ?_
      exact own_retN M X (z' := (1 : Int32)) (by simp) d1_88 rfl (by rw [T1_35, if_neg q1, if_neg q2] at hP; exact hP)
    · skip
      exact tl1_47 l Z a0 hw M X u0 u1 u2 (by rw [T1_35, if_neg q1, if_pos q2] at hP; exact hP)
def T1_23 (u0 : Int32) (u1 : Int32) (u2 : Int32) : Int32 := (if u0 < (63744 : Int32) then (T1_35 u0 u1 u2) else (if (64975 : Int32) < u0 then (T1_35 u0 u1 u2) else (1 : Int32)))
set_option maxRecDepth 65536 in
set_option maxHeartbeats 40000000 in
theorem tl1_23 (l : Launch) (Z : State) (a0 : Array Value) (hw : ∀ d ∈ tables_1, d.before a0 Z = true) {n0 : Nat} {K : own_Cx} {P : Option Value → Heap → Prop} {T : State} {h : Heap} (M : own_Mx Z a0 K prog_1_method_10_code "com/example/tunnus/tunnus/CharClasses" 3 (some .boolean) ({ frames := 0, cells := 0, slots := 0, locals := 0 } : Room)) (X : own_Sx n0 K T h 0 0) (u0 : Int32) (u1 : Int32) (u2 : Int32)
    (hP : P (some (.int (T1_23 u0 u1 u2))) h) : own_Fin n0 K P T 23 #[.val (.int u0), .val (.int u1), .val (.int u2)] [] := by
  refine own_iloadN M X d1_23 rfl rfl ?_
  refine own_ldc M X (hw _ (List.mem_of_getElem? (i := 18) rfl)) d1_24 rfl ?_
  refine own_icmp_lt M X d1_26 (by decide) rfl rfl (fun q1 => ?_) (fun q1 => ?_)
  · skip
    exact tl1_35 l Z a0 hw M X u0 u1 u2 (by rw [T1_23, if_pos q1] at hP; exact hP)
  · skip
    refine own_iloadN M X d1_29 rfl rfl ?_
    refine own_ldc M X (hw _ (List.mem_of_getElem? (i := 55) rfl)) d1_30 rfl ?_
    refine own_icmp_le M X d1_32 (by decide) rfl rfl (fun q2 => ?_) (fun q2 => ?_)
    · skip
      refine own_iconst M X (v := (1 : Int32)) d1_83 rfl rfl ?_
      refine own_goto M X d1_84 (by decide) rfl ?_
      exact own_retN M X (z' := (1 : Int32)) (by simp) d1_88 rfl (by rw [T1_23, if_neg q1, if_neg q2] at hP; exact hP)
    · skip
      exact tl1_35 l Z a0 hw M X u0 u1 u2 (by rw [T1_23, if_neg q1, if_pos q2] at hP; exact hP)
def F1 (x0 : Int32) : Int32 := (if x0 < (160 : Int32) then (T1_23 x0 ((x0.toUInt32 >>> ((16 : Int32) &&& 31).toUInt32).toInt32) (x0 &&& (65535 : Int32))) else (if (55295 : Int32) < x0 then (T1_23 x0 ((x0.toUInt32 >>> ((16 : Int32) &&& 31).toUInt32).toInt32) (x0 &&& (65535 : Int32))) else (1 : Int32)))
theorem own_pn1 : plainName "com/example/tunnus/tunnus/CharClasses" = true := by first | (simp [plainName, overriddenIn]; done) | decide +kernel
set_option maxRecDepth 65536 in
set_option maxHeartbeats 40000000 in
theorem met_1 (l : Launch) (Z : State) (a0 : Array Value) (hw : ∀ d ∈ tables_1, d.before a0 Z = true) (h0 : Heap) (n0 : Nat) (hn : n0 ≤ h0.size) (x0 : Int32) : own_Met l Z n0 (⟨"com/example/tunnus/tunnus/CharClasses", "isUcschar", "(I)Z"⟩ : MethodName) prog_1_method_10_code 3 (some .boolean) ({ frames := 0, cells := 0, slots := 0, locals := 0 } : Room) #[(.int x0)] h0 (fun v h => v = some (.int (F1 x0)) ∧ h = h0) := by
  refine own_enter (L := #[.val (.int x0), .unset, .unset]) (plainFor_of_name own_pn1) hw hn (fun m => by first | (simp [entryFrame, mkF, argsToLocals, Value.category]; done) | rfl) (fun K T hK M X => ?_)
  refine own_iloadN M X d1_0 rfl rfl ?_
  refine own_bipush M X (v := (16 : Int32)) d1_1 rfl rfl ?_
  refine own_iushr M X d1_3 rfl ?_
  refine own_istoreN M X (L' := #[.val (.int x0), .val (.int ((x0.toUInt32 >>> ((16 : Int32) &&& 31).toUInt32).toInt32)), .unset]) d1_4 rfl rfl ?_
  refine own_iloadN M X d1_5 rfl rfl ?_
  refine own_ldc M X (hw _ (List.mem_of_getElem? (i := 17) rfl)) d1_6 rfl ?_
  refine own_iand M X d1_8 rfl ?_
  refine own_istoreN M X (L' := #[.val (.int x0), .val (.int ((x0.toUInt32 >>> ((16 : Int32) &&& 31).toUInt32).toInt32)), .val (.int (x0 &&& (65535 : Int32)))]) d1_9 rfl rfl ?_
  refine own_iloadN M X d1_10 rfl rfl ?_
  refine own_sipush M X (v := (160 : Int32)) d1_11 rfl rfl ?_
  refine own_icmp_lt M X d1_14 (by decide) rfl rfl (fun q1 => ?_) (fun q1 => ?_)
  · skip
    exact tl1_23 l Z a0 hw M X x0 ((x0.toUInt32 >>> ((16 : Int32) &&& 31).toUInt32).toInt32) (x0 &&& (65535 : Int32)) ⟨by rw [F1, if_pos q1], rfl⟩
  · skip
    refine own_iloadN M X d1_17 rfl rfl ?_
    refine own_ldc M X (hw _ (List.mem_of_getElem? (i := 54) rfl)) d1_18 rfl ?_
    refine own_icmp_le M X d1_20 (by decide) rfl rfl (fun q2 => ?_) (fun q2 => ?_)
    · skip
      refine own_iconst M X (v := (1 : Int32)) d1_83 rfl rfl ?_
      refine own_goto M X d1_84 (by decide) rfl ?_
      exact own_retN M X (z' := (1 : Int32)) (by simp) d1_88 rfl ⟨by rw [F1, if_neg q1, if_neg q2], rfl⟩
    · skip
      exact tl1_23 l Z a0 hw M X x0 ((x0.toUInt32 >>> ((16 : Int32) &&& 31).toUInt32).toInt32) (x0 &&& (65535 : Int32)) ⟨by rw [F1, if_neg q1, if_pos q2], rfl⟩
theorem d3_0 : decode method_2_code 0 = .ok (.iload_n 0, 1) := by decide +kernel
theorem d3_1 : decode method_2_code 1 = .ok (.iload_n 1, 1) := by decide +kernel
theorem d3_2 : decode method_2_code 2 = .ok (.if_icmp .lt 12, 3) := by decide +kernel
theorem d3_5 : decode method_2_code 5 = .ok (.iload_n 0, 1) := by decide +kernel
theorem d3_6 : decode method_2_code 6 = .ok (.iload_n 2, 1) := by decide +kernel
theorem d3_7 : decode method_2_code 7 = .ok (.if_icmp .gt 7, 3) := by decide +kernel
theorem d3_10 : decode method_2_code 10 = .ok (.iconst 1, 1) := by decide +kernel
theorem d3_11 : decode method_2_code 11 = .ok (.goto 4, 3) := by decide +kernel
theorem d3_14 : decode method_2_code 14 = .ok (.iconst 0, 1) := by decide +kernel
theorem d3_15 : decode method_2_code 15 = .ok (.ireturn, 1) := by decide +kernel
def F3 (x0 : Int32) (x1 : Int32) (x2 : Int32) : Int32 := (if x0 < x1 then (0 : Int32) else (if x2 < x0 then (0 : Int32) else (1 : Int32)))
theorem own_pn3 : plainName "com/example/tunnus/tunnus/CharClassesIsUcscharPinLaw" = true := by first | (simp [plainName, overriddenIn]; done) | decide +kernel
set_option maxRecDepth 65536 in
set_option maxHeartbeats 40000000 in
theorem met_3 (l : Launch) (Z : State) (a0 : Array Value) (hw : ∀ d ∈ tables_1, d.before a0 Z = true) (h0 : Heap) (n0 : Nat) (hn : n0 ≤ h0.size) (x0 : Int32) (x1 : Int32) (x2 : Int32) : own_Met l Z n0 (⟨"com/example/tunnus/tunnus/CharClassesIsUcscharPinLaw", "in", "(III)Z"⟩ : MethodName) method_2_code 3 (some .boolean) ({ frames := 0, cells := 0, slots := 0, locals := 0 } : Room) #[(.int x0), (.int x1), (.int x2)] h0 (fun v h => v = some (.int (F3 x0 x1 x2)) ∧ h = h0) := by
  refine own_enter (L := #[.val (.int x0), .val (.int x1), .val (.int x2)]) (plainFor_of_name own_pn3) hw hn (fun m => by first | (simp [entryFrame, mkF, argsToLocals, Value.category]; done) | rfl) (fun K T hK M X => ?_)
  refine own_iloadN M X d3_0 rfl rfl ?_
  refine own_iloadN M X d3_1 rfl rfl ?_
  refine own_icmp_lt M X d3_2 (by decide) rfl rfl (fun q1 => ?_) (fun q1 => ?_)
  · skip
    refine own_iconst M X (v := (0 : Int32)) d3_14 rfl rfl ?_
    exact own_retN M X (z' := (0 : Int32)) (by simp) d3_15 rfl ⟨by rw [F3, if_pos q1], rfl⟩
  · skip
    refine own_iloadN M X d3_5 rfl rfl ?_
    refine own_iloadN M X d3_6 rfl rfl ?_
    refine own_icmp_gt M X d3_7 (by decide) rfl rfl (fun q2 => ?_) (fun q2 => ?_)
    · skip
      refine own_iconst M X (v := (0 : Int32)) d3_14 rfl rfl ?_
      exact own_retN M X (z' := (0 : Int32)) (by simp) d3_15 rfl ⟨by rw [F3, if_neg q1, if_pos q2], rfl⟩
    · skip
      refine own_iconst M X (v := (1 : Int32)) d3_10 rfl rfl ?_
      refine own_goto M X d3_11 (by decide) rfl ?_
      exact own_retN M X (z' := (1 : Int32)) (by simp) d3_15 rfl ⟨by rw [F3, if_neg q1, if_neg q2], rfl⟩
theorem d2_0 : decode method_3_code 0 = .ok (.iload_n 0, 1) := by decide +kernel
theorem d2_1 : decode method_3_code 1 = .ok (.sipush 160, 3) := by decide +kernel
theorem d2_4 : decode method_3_code 4 = .ok (.ldc 7, 2) := by decide +kernel
theorem d2_6 : decode method_3_code 6 = .ok (.invokestatic 8, 3) := by decide +kernel
theorem d2_9 : decode method_3_code 9 = .ok (.ifCond .ne 179, 3) := by decide +kernel
theorem d2_12 : decode method_3_code 12 = .ok (.iload_n 0, 1) := by decide +kernel
theorem d2_13 : decode method_3_code 13 = .ok (.ldc 14, 2) := by decide +kernel
theorem d2_15 : decode method_3_code 15 = .ok (.ldc 15, 2) := by decide +kernel
theorem d2_17 : decode method_3_code 17 = .ok (.invokestatic 8, 3) := by decide +kernel
theorem d2_20 : decode method_3_code 20 = .ok (.ifCond .ne 168, 3) := by decide +kernel
theorem d2_23 : decode method_3_code 23 = .ok (.iload_n 0, 1) := by decide +kernel
theorem d2_24 : decode method_3_code 24 = .ok (.ldc 16, 2) := by decide +kernel
theorem d2_26 : decode method_3_code 26 = .ok (.ldc 17, 2) := by decide +kernel
theorem d2_28 : decode method_3_code 28 = .ok (.invokestatic 8, 3) := by decide +kernel
theorem d2_31 : decode method_3_code 31 = .ok (.ifCond .ne 157, 3) := by decide +kernel
theorem d2_34 : decode method_3_code 34 = .ok (.iload_n 0, 1) := by decide +kernel
theorem d2_35 : decode method_3_code 35 = .ok (.ldc 18, 2) := by decide +kernel
theorem d2_37 : decode method_3_code 37 = .ok (.ldc 19, 2) := by decide +kernel
theorem d2_39 : decode method_3_code 39 = .ok (.invokestatic 8, 3) := by decide +kernel
theorem d2_42 : decode method_3_code 42 = .ok (.ifCond .ne 146, 3) := by decide +kernel
theorem d2_45 : decode method_3_code 45 = .ok (.iload_n 0, 1) := by decide +kernel
theorem d2_46 : decode method_3_code 46 = .ok (.ldc 20, 2) := by decide +kernel
theorem d2_48 : decode method_3_code 48 = .ok (.ldc 21, 2) := by decide +kernel
theorem d2_50 : decode method_3_code 50 = .ok (.invokestatic 8, 3) := by decide +kernel
theorem d2_53 : decode method_3_code 53 = .ok (.ifCond .ne 135, 3) := by decide +kernel
theorem d2_56 : decode method_3_code 56 = .ok (.iload_n 0, 1) := by decide +kernel
theorem d2_57 : decode method_3_code 57 = .ok (.ldc 22, 2) := by decide +kernel
theorem d2_59 : decode method_3_code 59 = .ok (.ldc 23, 2) := by decide +kernel
theorem d2_61 : decode method_3_code 61 = .ok (.invokestatic 8, 3) := by decide +kernel
theorem d2_64 : decode method_3_code 64 = .ok (.ifCond .ne 124, 3) := by decide +kernel
theorem d2_67 : decode method_3_code 67 = .ok (.iload_n 0, 1) := by decide +kernel
theorem d2_68 : decode method_3_code 68 = .ok (.ldc 24, 2) := by decide +kernel
theorem d2_70 : decode method_3_code 70 = .ok (.ldc 25, 2) := by decide +kernel
theorem d2_72 : decode method_3_code 72 = .ok (.invokestatic 8, 3) := by decide +kernel
theorem d2_75 : decode method_3_code 75 = .ok (.ifCond .ne 113, 3) := by decide +kernel
theorem d2_78 : decode method_3_code 78 = .ok (.iload_n 0, 1) := by decide +kernel
theorem d2_79 : decode method_3_code 79 = .ok (.ldc 26, 2) := by decide +kernel
theorem d2_81 : decode method_3_code 81 = .ok (.ldc 27, 2) := by decide +kernel
theorem d2_83 : decode method_3_code 83 = .ok (.invokestatic 8, 3) := by decide +kernel
theorem d2_86 : decode method_3_code 86 = .ok (.ifCond .ne 102, 3) := by decide +kernel
theorem d2_89 : decode method_3_code 89 = .ok (.iload_n 0, 1) := by decide +kernel
theorem d2_90 : decode method_3_code 90 = .ok (.ldc 28, 2) := by decide +kernel
theorem d2_92 : decode method_3_code 92 = .ok (.ldc 29, 2) := by decide +kernel
theorem d2_94 : decode method_3_code 94 = .ok (.invokestatic 8, 3) := by decide +kernel
theorem d2_97 : decode method_3_code 97 = .ok (.ifCond .ne 91, 3) := by decide +kernel
theorem d2_100 : decode method_3_code 100 = .ok (.iload_n 0, 1) := by decide +kernel
theorem d2_101 : decode method_3_code 101 = .ok (.ldc 30, 2) := by decide +kernel
theorem d2_103 : decode method_3_code 103 = .ok (.ldc 31, 2) := by decide +kernel
theorem d2_105 : decode method_3_code 105 = .ok (.invokestatic 8, 3) := by decide +kernel
theorem d2_108 : decode method_3_code 108 = .ok (.ifCond .ne 80, 3) := by decide +kernel
theorem d2_111 : decode method_3_code 111 = .ok (.iload_n 0, 1) := by decide +kernel
theorem d2_112 : decode method_3_code 112 = .ok (.ldc 32, 2) := by decide +kernel
theorem d2_114 : decode method_3_code 114 = .ok (.ldc 33, 2) := by decide +kernel
theorem d2_116 : decode method_3_code 116 = .ok (.invokestatic 8, 3) := by decide +kernel
theorem d2_119 : decode method_3_code 119 = .ok (.ifCond .ne 69, 3) := by decide +kernel
theorem d2_122 : decode method_3_code 122 = .ok (.iload_n 0, 1) := by decide +kernel
theorem d2_123 : decode method_3_code 123 = .ok (.ldc 34, 2) := by decide +kernel
theorem d2_125 : decode method_3_code 125 = .ok (.ldc 35, 2) := by decide +kernel
theorem d2_127 : decode method_3_code 127 = .ok (.invokestatic 8, 3) := by decide +kernel
theorem d2_130 : decode method_3_code 130 = .ok (.ifCond .ne 58, 3) := by decide +kernel
theorem d2_133 : decode method_3_code 133 = .ok (.iload_n 0, 1) := by decide +kernel
theorem d2_134 : decode method_3_code 134 = .ok (.ldc 36, 2) := by decide +kernel
theorem d2_136 : decode method_3_code 136 = .ok (.ldc 37, 2) := by decide +kernel
theorem d2_138 : decode method_3_code 138 = .ok (.invokestatic 8, 3) := by decide +kernel
theorem d2_141 : decode method_3_code 141 = .ok (.ifCond .ne 47, 3) := by decide +kernel
theorem d2_144 : decode method_3_code 144 = .ok (.iload_n 0, 1) := by decide +kernel
theorem d2_145 : decode method_3_code 145 = .ok (.ldc 38, 2) := by decide +kernel
theorem d2_147 : decode method_3_code 147 = .ok (.ldc 39, 2) := by decide +kernel
theorem d2_149 : decode method_3_code 149 = .ok (.invokestatic 8, 3) := by decide +kernel
theorem d2_152 : decode method_3_code 152 = .ok (.ifCond .ne 36, 3) := by decide +kernel
theorem d2_155 : decode method_3_code 155 = .ok (.iload_n 0, 1) := by decide +kernel
theorem d2_156 : decode method_3_code 156 = .ok (.ldc 40, 2) := by decide +kernel
theorem d2_158 : decode method_3_code 158 = .ok (.ldc 41, 2) := by decide +kernel
theorem d2_160 : decode method_3_code 160 = .ok (.invokestatic 8, 3) := by decide +kernel
theorem d2_163 : decode method_3_code 163 = .ok (.ifCond .ne 25, 3) := by decide +kernel
theorem d2_166 : decode method_3_code 166 = .ok (.iload_n 0, 1) := by decide +kernel
theorem d2_167 : decode method_3_code 167 = .ok (.ldc 42, 2) := by decide +kernel
theorem d2_169 : decode method_3_code 169 = .ok (.ldc 43, 2) := by decide +kernel
theorem d2_171 : decode method_3_code 171 = .ok (.invokestatic 8, 3) := by decide +kernel
theorem d2_174 : decode method_3_code 174 = .ok (.ifCond .ne 14, 3) := by decide +kernel
theorem d2_177 : decode method_3_code 177 = .ok (.iload_n 0, 1) := by decide +kernel
theorem d2_178 : decode method_3_code 178 = .ok (.ldc 44, 2) := by decide +kernel
theorem d2_180 : decode method_3_code 180 = .ok (.ldc 45, 2) := by decide +kernel
theorem d2_182 : decode method_3_code 182 = .ok (.invokestatic 8, 3) := by decide +kernel
theorem d2_185 : decode method_3_code 185 = .ok (.ifCond .eq 7, 3) := by decide +kernel
theorem d2_188 : decode method_3_code 188 = .ok (.iconst 1, 1) := by decide +kernel
theorem d2_189 : decode method_3_code 189 = .ok (.goto 4, 3) := by decide +kernel
theorem d2_192 : decode method_3_code 192 = .ok (.iconst 0, 1) := by decide +kernel
theorem d2_193 : decode method_3_code 193 = .ok (.ireturn, 1) := by decide +kernel
def F2 (x0 : Int32) : Int32 := (if (F3 x0 (160 : Int32) (55295 : Int32)) = (0 : Int32) then (if (F3 x0 (63744 : Int32) (64975 : Int32)) = (0 : Int32) then (if (F3 x0 (65008 : Int32) (65519 : Int32)) = (0 : Int32) then (if (F3 x0 (65536 : Int32) (131069 : Int32)) = (0 : Int32) then (if (F3 x0 (131072 : Int32) (196605 : Int32)) = (0 : Int32) then (if (F3 x0 (196608 : Int32) (262141 : Int32)) = (0 : Int32) then (if (F3 x0 (262144 : Int32) (327677 : Int32)) = (0 : Int32) then (if (F3 x0 (327680 : Int32) (393213 : Int32)) = (0 : Int32) then (if (F3 x0 (393216 : Int32) (458749 : Int32)) = (0 : Int32) then (if (F3 x0 (458752 : Int32) (524285 : Int32)) = (0 : Int32) then (if (F3 x0 (524288 : Int32) (589821 : Int32)) = (0 : Int32) then (if (F3 x0 (589824 : Int32) (655357 : Int32)) = (0 : Int32) then (if (F3 x0 (655360 : Int32) (720893 : Int32)) = (0 : Int32) then (if (F3 x0 (720896 : Int32) (786429 : Int32)) = (0 : Int32) then (if (F3 x0 (786432 : Int32) (851965 : Int32)) = (0 : Int32) then (if (F3 x0 (851968 : Int32) (917501 : Int32)) = (0 : Int32) then (if (F3 x0 (921600 : Int32) (983037 : Int32)) = (0 : Int32) then (0 : Int32) else (1 : Int32)) else (1 : Int32)) else (1 : Int32)) else (1 : Int32)) else (1 : Int32)) else (1 : Int32)) else (1 : Int32)) else (1 : Int32)) else (1 : Int32)) else (1 : Int32)) else (1 : Int32)) else (1 : Int32)) else (1 : Int32)) else (1 : Int32)) else (1 : Int32)) else (1 : Int32)) else (1 : Int32))
theorem own_pn2 : plainName "com/example/tunnus/tunnus/CharClassesIsUcscharPinLaw" = true := by first | (simp [plainName, overriddenIn]; done) | decide +kernel
set_option maxRecDepth 65536 in
set_option maxHeartbeats 40000000 in
theorem met_2 (l : Launch) (Z : State) (a0 : Array Value) (hw : ∀ d ∈ tables_1, d.before a0 Z = true) (h0 : Heap) (n0 : Nat) (hn : n0 ≤ h0.size) (x0 : Int32) : own_Met l Z n0 (⟨"com/example/tunnus/tunnus/CharClassesIsUcscharPinLaw", "ref", "(I)Z"⟩ : MethodName) method_3_code 1 (some .boolean) ({ frames := 1, cells := 0, slots := 0, locals := 14 } : Room) #[(.int x0)] h0 (fun v h => v = some (.int (F2 x0)) ∧ h = h0) := by
  refine own_enter (L := #[.val (.int x0)]) (plainFor_of_name own_pn2) hw hn (fun m => by first | (simp [entryFrame, mkF, argsToLocals, Value.category]; done) | rfl) (fun K T hK M X => ?_)
  refine own_iloadN M X d2_0 rfl rfl ?_
  refine own_sipush M X (v := (160 : Int32)) d2_1 rfl rfl ?_
  refine own_ldc M X (hw _ (List.mem_of_getElem? (i := 1) rfl)) d2_4 rfl ?_
  refine own_callP M X (yrm := ({ frames := 0, cells := 0, slots := 0, locals := 0 } : Room)) [(.int x0), (.int (160 : Int32)), (.int (55295 : Int32))] (hw _ (List.mem_of_getElem? (i := 24) rfl)) (hw _ (List.mem_of_getElem? (i := 25) rfl)) (hw _ (List.mem_of_getElem? (i := 22) rfl)) (hw _ (List.mem_of_getElem? (i := 26) rfl)) (by decide) (met_3 _ Z a0 hw h0 n0 X.size x0 (160 : Int32) (55295 : Int32)) rfl d2_6 rfl own_pd0 rfl rfl 0 (Nat.le_of_eq rfl) (by decide) (by decide) rfl rfl ?_
  intro T1 X2
  refine own_if_ne M X2 d2_9 (by decide) rfl rfl (fun q3 => ?_) (fun q3 => ?_)
  · skip
    refine own_iconst M X2 (v := (1 : Int32)) d2_188 rfl rfl ?_
    refine own_goto M X2 d2_189 (by decide) rfl ?_
    exact own_retN M X2 (z' := (1 : Int32)) (by simp) d2_193 rfl ⟨by rw [F2, if_neg q3], rfl⟩
  · skip
    refine own_iloadN M X2 d2_12 rfl rfl ?_
    refine own_ldc M X2 (hw _ (List.mem_of_getElem? (i := 3) rfl)) d2_13 rfl ?_
    refine own_ldc M X2 (hw _ (List.mem_of_getElem? (i := 4) rfl)) d2_15 rfl ?_
    refine own_callP M X2 (yrm := ({ frames := 0, cells := 0, slots := 0, locals := 0 } : Room)) [(.int x0), (.int (63744 : Int32)), (.int (64975 : Int32))] (hw _ (List.mem_of_getElem? (i := 24) rfl)) (hw _ (List.mem_of_getElem? (i := 25) rfl)) (hw _ (List.mem_of_getElem? (i := 22) rfl)) (hw _ (List.mem_of_getElem? (i := 26) rfl)) (by decide) (met_3 _ Z a0 hw h0 n0 X2.size x0 (63744 : Int32) (64975 : Int32)) rfl d2_17 rfl own_pd0 rfl rfl 0 (Nat.le_of_eq rfl) (by decide) (by decide) rfl rfl ?_
    intro T4 X5
    refine own_if_ne M X5 d2_20 (by decide) rfl rfl (fun q6 => ?_) (fun q6 => ?_)
    · skip
      refine own_iconst M X5 (v := (1 : Int32)) d2_188 rfl rfl ?_
      refine own_goto M X5 d2_189 (by decide) rfl ?_
      exact own_retN M X5 (z' := (1 : Int32)) (by simp) d2_193 rfl ⟨by rw [F2, if_pos q3, if_neg q6], rfl⟩
    · skip
      refine own_iloadN M X5 d2_23 rfl rfl ?_
      refine own_ldc M X5 (hw _ (List.mem_of_getElem? (i := 5) rfl)) d2_24 rfl ?_
      refine own_ldc M X5 (hw _ (List.mem_of_getElem? (i := 6) rfl)) d2_26 rfl ?_
      refine own_callP M X5 (yrm := ({ frames := 0, cells := 0, slots := 0, locals := 0 } : Room)) [(.int x0), (.int (65008 : Int32)), (.int (65519 : Int32))] (hw _ (List.mem_of_getElem? (i := 24) rfl)) (hw _ (List.mem_of_getElem? (i := 25) rfl)) (hw _ (List.mem_of_getElem? (i := 22) rfl)) (hw _ (List.mem_of_getElem? (i := 26) rfl)) (by decide) (met_3 _ Z a0 hw h0 n0 X5.size x0 (65008 : Int32) (65519 : Int32)) rfl d2_28 rfl own_pd0 rfl rfl 0 (Nat.le_of_eq rfl) (by decide) (by decide) rfl rfl ?_
      intro T7 X8
      refine own_if_ne M X8 d2_31 (by decide) rfl rfl (fun q9 => ?_) (fun q9 => ?_)
      · skip
        refine own_iconst M X8 (v := (1 : Int32)) d2_188 rfl rfl ?_
        refine own_goto M X8 d2_189 (by decide) rfl ?_
        exact own_retN M X8 (z' := (1 : Int32)) (by simp) d2_193 rfl ⟨by rw [F2, if_pos q3, if_pos q6, if_neg q9], rfl⟩
      · skip
        refine own_iloadN M X8 d2_34 rfl rfl ?_
        refine own_ldc M X8 (hw _ (List.mem_of_getElem? (i := 12) rfl)) d2_35 rfl ?_
        refine own_ldc M X8 (hw _ (List.mem_of_getElem? (i := 27) rfl)) d2_37 rfl ?_
        refine own_callP M X8 (yrm := ({ frames := 0, cells := 0, slots := 0, locals := 0 } : Room)) [(.int x0), (.int (65536 : Int32)), (.int (131069 : Int32))] (hw _ (List.mem_of_getElem? (i := 24) rfl)) (hw _ (List.mem_of_getElem? (i := 25) rfl)) (hw _ (List.mem_of_getElem? (i := 22) rfl)) (hw _ (List.mem_of_getElem? (i := 26) rfl)) (by decide) (met_3 _ Z a0 hw h0 n0 X8.size x0 (65536 : Int32) (131069 : Int32)) rfl d2_39 rfl own_pd0 rfl rfl 0 (Nat.le_of_eq rfl) (by decide) (by decide) rfl rfl ?_
        intro T10 X11
        refine own_if_ne M X11 d2_42 (by decide) rfl rfl (fun q12 => ?_) (fun q12 => ?_)
        · skip
          refine own_iconst M X11 (v := (1 : Int32)) d2_188 rfl rfl ?_
          refine own_goto M X11 d2_189 (by decide) rfl ?_
          exact own_retN M X11 (z' := (1 : Int32)) (by simp) d2_193 rfl ⟨by rw [F2, if_pos q3, if_pos q6, if_pos q9, if_neg q12], rfl⟩
        · skip
          refine own_iloadN M X11 d2_45 rfl rfl ?_
          refine own_ldc M X11 (hw _ (List.mem_of_getElem? (i := 28) rfl)) d2_46 rfl ?_
          refine own_ldc M X11 (hw _ (List.mem_of_getElem? (i := 29) rfl)) d2_48 rfl ?_
          refine own_callP M X11 (yrm := ({ frames := 0, cells := 0, slots := 0, locals := 0 } : Room)) [(.int x0), (.int (131072 : Int32)), (.int (196605 : Int32))] (hw _ (List.mem_of_getElem? (i := 24) rfl)) (hw _ (List.mem_of_getElem? (i := 25) rfl)) (hw _ (List.mem_of_getElem? (i := 22) rfl)) (hw _ (List.mem_of_getElem? (i := 26) rfl)) (by decide) (met_3 _ Z a0 hw h0 n0 X11.size x0 (131072 : Int32) (196605 : Int32)) rfl d2_50 rfl own_pd0 rfl rfl 0 (Nat.le_of_eq rfl) (by decide) (by decide) rfl rfl ?_
          intro T13 X14
          refine own_if_ne M X14 d2_53 (by decide) rfl rfl (fun q15 => ?_) (fun q15 => ?_)
          · skip
            refine own_iconst M X14 (v := (1 : Int32)) d2_188 rfl rfl ?_
            refine own_goto M X14 d2_189 (by decide) rfl ?_
            exact own_retN M X14 (z' := (1 : Int32)) (by simp) d2_193 rfl ⟨by rw [F2, if_pos q3, if_pos q6, if_pos q9, if_pos q12, if_neg q15], rfl⟩
          · skip
            refine own_iloadN M X14 d2_56 rfl rfl ?_
            refine own_ldc M X14 (hw _ (List.mem_of_getElem? (i := 30) rfl)) d2_57 rfl ?_
            refine own_ldc M X14 (hw _ (List.mem_of_getElem? (i := 31) rfl)) d2_59 rfl ?_
            refine own_callP M X14 (yrm := ({ frames := 0, cells := 0, slots := 0, locals := 0 } : Room)) [(.int x0), (.int (196608 : Int32)), (.int (262141 : Int32))] (hw _ (List.mem_of_getElem? (i := 24) rfl)) (hw _ (List.mem_of_getElem? (i := 25) rfl)) (hw _ (List.mem_of_getElem? (i := 22) rfl)) (hw _ (List.mem_of_getElem? (i := 26) rfl)) (by decide) (met_3 _ Z a0 hw h0 n0 X14.size x0 (196608 : Int32) (262141 : Int32)) rfl d2_61 rfl own_pd0 rfl rfl 0 (Nat.le_of_eq rfl) (by decide) (by decide) rfl rfl ?_
            intro T16 X17
            refine own_if_ne M X17 d2_64 (by decide) rfl rfl (fun q18 => ?_) (fun q18 => ?_)
            · skip
              refine own_iconst M X17 (v := (1 : Int32)) d2_188 rfl rfl ?_
              refine own_goto M X17 d2_189 (by decide) rfl ?_
              exact own_retN M X17 (z' := (1 : Int32)) (by simp) d2_193 rfl ⟨by rw [F2, if_pos q3, if_pos q6, if_pos q9, if_pos q12, if_pos q15, if_neg q18], rfl⟩
            · skip
              refine own_iloadN M X17 d2_67 rfl rfl ?_
              refine own_ldc M X17 (hw _ (List.mem_of_getElem? (i := 32) rfl)) d2_68 rfl ?_
              refine own_ldc M X17 (hw _ (List.mem_of_getElem? (i := 33) rfl)) d2_70 rfl ?_
              refine own_callP M X17 (yrm := ({ frames := 0, cells := 0, slots := 0, locals := 0 } : Room)) [(.int x0), (.int (262144 : Int32)), (.int (327677 : Int32))] (hw _ (List.mem_of_getElem? (i := 24) rfl)) (hw _ (List.mem_of_getElem? (i := 25) rfl)) (hw _ (List.mem_of_getElem? (i := 22) rfl)) (hw _ (List.mem_of_getElem? (i := 26) rfl)) (by decide) (met_3 _ Z a0 hw h0 n0 X17.size x0 (262144 : Int32) (327677 : Int32)) rfl d2_72 rfl own_pd0 rfl rfl 0 (Nat.le_of_eq rfl) (by decide) (by decide) rfl rfl ?_
              intro T19 X20
              refine own_if_ne M X20 d2_75 (by decide) rfl rfl (fun q21 => ?_) (fun q21 => ?_)
              · skip
                refine own_iconst M X20 (v := (1 : Int32)) d2_188 rfl rfl ?_
                refine own_goto M X20 d2_189 (by decide) rfl ?_
                exact own_retN M X20 (z' := (1 : Int32)) (by simp) d2_193 rfl ⟨by rw [F2, if_pos q3, if_pos q6, if_pos q9, if_pos q12, if_pos q15, if_pos q18, if_neg q21], rfl⟩
              · skip
                refine own_iloadN M X20 d2_78 rfl rfl ?_
                refine own_ldc M X20 (hw _ (List.mem_of_getElem? (i := 34) rfl)) d2_79 rfl ?_
                refine own_ldc M X20 (hw _ (List.mem_of_getElem? (i := 35) rfl)) d2_81 rfl ?_
                refine own_callP M X20 (yrm := ({ frames := 0, cells := 0, slots := 0, locals := 0 } : Room)) [(.int x0), (.int (327680 : Int32)), (.int (393213 : Int32))] (hw _ (List.mem_of_getElem? (i := 24) rfl)) (hw _ (List.mem_of_getElem? (i := 25) rfl)) (hw _ (List.mem_of_getElem? (i := 22) rfl)) (hw _ (List.mem_of_getElem? (i := 26) rfl)) (by decide) (met_3 _ Z a0 hw h0 n0 X20.size x0 (327680 : Int32) (393213 : Int32)) rfl d2_83 rfl own_pd0 rfl rfl 0 (Nat.le_of_eq rfl) (by decide) (by decide) rfl rfl ?_
                intro T22 X23
                refine own_if_ne M X23 d2_86 (by decide) rfl rfl (fun q24 => ?_) (fun q24 => ?_)
                · skip
                  refine own_iconst M X23 (v := (1 : Int32)) d2_188 rfl rfl ?_
                  refine own_goto M X23 d2_189 (by decide) rfl ?_
                  exact own_retN M X23 (z' := (1 : Int32)) (by simp) d2_193 rfl ⟨by rw [F2, if_pos q3, if_pos q6, if_pos q9, if_pos q12, if_pos q15, if_pos q18, if_pos q21, if_neg q24], rfl⟩
                · skip
                  refine own_iloadN M X23 d2_89 rfl rfl ?_
                  refine own_ldc M X23 (hw _ (List.mem_of_getElem? (i := 36) rfl)) d2_90 rfl ?_
                  refine own_ldc M X23 (hw _ (List.mem_of_getElem? (i := 37) rfl)) d2_92 rfl ?_
                  refine own_callP M X23 (yrm := ({ frames := 0, cells := 0, slots := 0, locals := 0 } : Room)) [(.int x0), (.int (393216 : Int32)), (.int (458749 : Int32))] (hw _ (List.mem_of_getElem? (i := 24) rfl)) (hw _ (List.mem_of_getElem? (i := 25) rfl)) (hw _ (List.mem_of_getElem? (i := 22) rfl)) (hw _ (List.mem_of_getElem? (i := 26) rfl)) (by decide) (met_3 _ Z a0 hw h0 n0 X23.size x0 (393216 : Int32) (458749 : Int32)) rfl d2_94 rfl own_pd0 rfl rfl 0 (Nat.le_of_eq rfl) (by decide) (by decide) rfl rfl ?_
                  intro T25 X26
                  refine own_if_ne M X26 d2_97 (by decide) rfl rfl (fun q27 => ?_) (fun q27 => ?_)
                  · skip
                    refine own_iconst M X26 (v := (1 : Int32)) d2_188 rfl rfl ?_
                    refine own_goto M X26 d2_189 (by decide) rfl ?_
                    exact own_retN M X26 (z' := (1 : Int32)) (by simp) d2_193 rfl ⟨by rw [F2, if_pos q3, if_pos q6, if_pos q9, if_pos q12, if_pos q15, if_pos q18, if_pos q21, if_pos q24, if_neg q27], rfl⟩
                  · skip
                    refine own_iloadN M X26 d2_100 rfl rfl ?_
                    refine own_ldc M X26 (hw _ (List.mem_of_getElem? (i := 38) rfl)) d2_101 rfl ?_
                    refine own_ldc M X26 (hw _ (List.mem_of_getElem? (i := 39) rfl)) d2_103 rfl ?_
                    refine own_callP M X26 (yrm := ({ frames := 0, cells := 0, slots := 0, locals := 0 } : Room)) [(.int x0), (.int (458752 : Int32)), (.int (524285 : Int32))] (hw _ (List.mem_of_getElem? (i := 24) rfl)) (hw _ (List.mem_of_getElem? (i := 25) rfl)) (hw _ (List.mem_of_getElem? (i := 22) rfl)) (hw _ (List.mem_of_getElem? (i := 26) rfl)) (by decide) (met_3 _ Z a0 hw h0 n0 X26.size x0 (458752 : Int32) (524285 : Int32)) rfl d2_105 rfl own_pd0 rfl rfl 0 (Nat.le_of_eq rfl) (by decide) (by decide) rfl rfl ?_
                    intro T28 X29
                    refine own_if_ne M X29 d2_108 (by decide) rfl rfl (fun q30 => ?_) (fun q30 => ?_)
                    · skip
                      refine own_iconst M X29 (v := (1 : Int32)) d2_188 rfl rfl ?_
                      refine own_goto M X29 d2_189 (by decide) rfl ?_
                      exact own_retN M X29 (z' := (1 : Int32)) (by simp) d2_193 rfl ⟨by rw [F2, if_pos q3, if_pos q6, if_pos q9, if_pos q12, if_pos q15, if_pos q18, if_pos q21, if_pos q24, if_pos q27, if_neg q30], rfl⟩
                    · skip
                      refine own_iloadN M X29 d2_111 rfl rfl ?_
                      refine own_ldc M X29 (hw _ (List.mem_of_getElem? (i := 40) rfl)) d2_112 rfl ?_
                      refine own_ldc M X29 (hw _ (List.mem_of_getElem? (i := 41) rfl)) d2_114 rfl ?_
                      refine own_callP M X29 (yrm := ({ frames := 0, cells := 0, slots := 0, locals := 0 } : Room)) [(.int x0), (.int (524288 : Int32)), (.int (589821 : Int32))] (hw _ (List.mem_of_getElem? (i := 24) rfl)) (hw _ (List.mem_of_getElem? (i := 25) rfl)) (hw _ (List.mem_of_getElem? (i := 22) rfl)) (hw _ (List.mem_of_getElem? (i := 26) rfl)) (by decide) (met_3 _ Z a0 hw h0 n0 X29.size x0 (524288 : Int32) (589821 : Int32)) rfl d2_116 rfl own_pd0 rfl rfl 0 (Nat.le_of_eq rfl) (by decide) (by decide) rfl rfl ?_
                      intro T31 X32
                      refine own_if_ne M X32 d2_119 (by decide) rfl rfl (fun q33 => ?_) (fun q33 => ?_)
                      · skip
                        refine own_iconst M X32 (v := (1 : Int32)) d2_188 rfl rfl ?_
                        refine own_goto M X32 d2_189 (by decide) rfl ?_
                        exact own_retN M X32 (z' := (1 : Int32)) (by simp) d2_193 rfl ⟨by rw [F2, if_pos q3, if_pos q6, if_pos q9, if_pos q12, if_pos q15, if_pos q18, if_pos q21, if_pos q24, if_pos q27, if_pos q30, if_neg q33], rfl⟩
                      · skip
                        refine own_iloadN M X32 d2_122 rfl rfl ?_
                        refine own_ldc M X32 (hw _ (List.mem_of_getElem? (i := 42) rfl)) d2_123 rfl ?_
                        refine own_ldc M X32 (hw _ (List.mem_of_getElem? (i := 43) rfl)) d2_125 rfl ?_
                        refine own_callP M X32 (yrm := ({ frames := 0, cells := 0, slots := 0, locals := 0 } : Room)) [(.int x0), (.int (589824 : Int32)), (.int (655357 : Int32))] (hw _ (List.mem_of_getElem? (i := 24) rfl)) (hw _ (List.mem_of_getElem? (i := 25) rfl)) (hw _ (List.mem_of_getElem? (i := 22) rfl)) (hw _ (List.mem_of_getElem? (i := 26) rfl)) (by decide) (met_3 _ Z a0 hw h0 n0 X32.size x0 (589824 : Int32) (655357 : Int32)) rfl d2_127 rfl own_pd0 rfl rfl 0 (Nat.le_of_eq rfl) (by decide) (by decide) rfl rfl ?_
                        intro T34 X35
                        refine own_if_ne M X35 d2_130 (by decide) rfl rfl (fun q36 => ?_) (fun q36 => ?_)
                        · skip
                          refine own_iconst M X35 (v := (1 : Int32)) d2_188 rfl rfl ?_
                          refine own_goto M X35 d2_189 (by decide) rfl ?_
                          exact own_retN M X35 (z' := (1 : Int32)) (by simp) d2_193 rfl ⟨by rw [F2, if_pos q3, if_pos q6, if_pos q9, if_pos q12, if_pos q15, if_pos q18, if_pos q21, if_pos q24, if_pos q27, if_pos q30, if_pos q33, if_neg q36], rfl⟩
                        · skip
                          refine own_iloadN M X35 d2_133 rfl rfl ?_
                          refine own_ldc M X35 (hw _ (List.mem_of_getElem? (i := 44) rfl)) d2_134 rfl ?_
                          refine own_ldc M X35 (hw _ (List.mem_of_getElem? (i := 45) rfl)) d2_136 rfl ?_
                          refine own_callP M X35 (yrm := ({ frames := 0, cells := 0, slots := 0, locals := 0 } : Room)) [(.int x0), (.int (655360 : Int32)), (.int (720893 : Int32))] (hw _ (List.mem_of_getElem? (i := 24) rfl)) (hw _ (List.mem_of_getElem? (i := 25) rfl)) (hw _ (List.mem_of_getElem? (i := 22) rfl)) (hw _ (List.mem_of_getElem? (i := 26) rfl)) (by decide) (met_3 _ Z a0 hw h0 n0 X35.size x0 (655360 : Int32) (720893 : Int32)) rfl d2_138 rfl own_pd0 rfl rfl 0 (Nat.le_of_eq rfl) (by decide) (by decide) rfl rfl ?_
                          intro T37 X38
                          refine own_if_ne M X38 d2_141 (by decide) rfl rfl (fun q39 => ?_) (fun q39 => ?_)
                          · skip
                            refine own_iconst M X38 (v := (1 : Int32)) d2_188 rfl rfl ?_
                            refine own_goto M X38 d2_189 (by decide) rfl ?_
                            exact own_retN M X38 (z' := (1 : Int32)) (by simp) d2_193 rfl ⟨by rw [F2, if_pos q3, if_pos q6, if_pos q9, if_pos q12, if_pos q15, if_pos q18, if_pos q21, if_pos q24, if_pos q27, if_pos q30, if_pos q33, if_pos q36, if_neg q39], rfl⟩
                          · skip
                            refine own_iloadN M X38 d2_144 rfl rfl ?_
                            refine own_ldc M X38 (hw _ (List.mem_of_getElem? (i := 46) rfl)) d2_145 rfl ?_
                            refine own_ldc M X38 (hw _ (List.mem_of_getElem? (i := 47) rfl)) d2_147 rfl ?_
                            refine own_callP M X38 (yrm := ({ frames := 0, cells := 0, slots := 0, locals := 0 } : Room)) [(.int x0), (.int (720896 : Int32)), (.int (786429 : Int32))] (hw _ (List.mem_of_getElem? (i := 24) rfl)) (hw _ (List.mem_of_getElem? (i := 25) rfl)) (hw _ (List.mem_of_getElem? (i := 22) rfl)) (hw _ (List.mem_of_getElem? (i := 26) rfl)) (by decide) (met_3 _ Z a0 hw h0 n0 X38.size x0 (720896 : Int32) (786429 : Int32)) rfl d2_149 rfl own_pd0 rfl rfl 0 (Nat.le_of_eq rfl) (by decide) (by decide) rfl rfl ?_
                            intro T40 X41
                            refine own_if_ne M X41 d2_152 (by decide) rfl rfl (fun q42 => ?_) (fun q42 => ?_)
                            · skip
                              refine own_iconst M X41 (v := (1 : Int32)) d2_188 rfl rfl ?_
                              refine own_goto M X41 d2_189 (by decide) rfl ?_
                              exact own_retN M X41 (z' := (1 : Int32)) (by simp) d2_193 rfl ⟨by rw [F2, if_pos q3, if_pos q6, if_pos q9, if_pos q12, if_pos q15, if_pos q18, if_pos q21, if_pos q24, if_pos q27, if_pos q30, if_pos q33, if_pos q36, if_pos q39, if_neg q42], rfl⟩
                            · skip
                              refine own_iloadN M X41 d2_155 rfl rfl ?_
                              refine own_ldc M X41 (hw _ (List.mem_of_getElem? (i := 48) rfl)) d2_156 rfl ?_
                              refine own_ldc M X41 (hw _ (List.mem_of_getElem? (i := 49) rfl)) d2_158 rfl ?_
                              refine own_callP M X41 (yrm := ({ frames := 0, cells := 0, slots := 0, locals := 0 } : Room)) [(.int x0), (.int (786432 : Int32)), (.int (851965 : Int32))] (hw _ (List.mem_of_getElem? (i := 24) rfl)) (hw _ (List.mem_of_getElem? (i := 25) rfl)) (hw _ (List.mem_of_getElem? (i := 22) rfl)) (hw _ (List.mem_of_getElem? (i := 26) rfl)) (by decide) (met_3 _ Z a0 hw h0 n0 X41.size x0 (786432 : Int32) (851965 : Int32)) rfl d2_160 rfl own_pd0 rfl rfl 0 (Nat.le_of_eq rfl) (by decide) (by decide) rfl rfl ?_
                              intro T43 X44
                              refine own_if_ne M X44 d2_163 (by decide) rfl rfl (fun q45 => ?_) (fun q45 => ?_)
                              · skip
                                refine own_iconst M X44 (v := (1 : Int32)) d2_188 rfl rfl ?_
                                refine own_goto M X44 d2_189 (by decide) rfl ?_
                                exact own_retN M X44 (z' := (1 : Int32)) (by simp) d2_193 rfl ⟨by rw [F2, if_pos q3, if_pos q6, if_pos q9, if_pos q12, if_pos q15, if_pos q18, if_pos q21, if_pos q24, if_pos q27, if_pos q30, if_pos q33, if_pos q36, if_pos q39, if_pos q42, if_neg q45], rfl⟩
                              · skip
                                refine own_iloadN M X44 d2_166 rfl rfl ?_
                                refine own_ldc M X44 (hw _ (List.mem_of_getElem? (i := 50) rfl)) d2_167 rfl ?_
                                refine own_ldc M X44 (hw _ (List.mem_of_getElem? (i := 51) rfl)) d2_169 rfl ?_
                                refine own_callP M X44 (yrm := ({ frames := 0, cells := 0, slots := 0, locals := 0 } : Room)) [(.int x0), (.int (851968 : Int32)), (.int (917501 : Int32))] (hw _ (List.mem_of_getElem? (i := 24) rfl)) (hw _ (List.mem_of_getElem? (i := 25) rfl)) (hw _ (List.mem_of_getElem? (i := 22) rfl)) (hw _ (List.mem_of_getElem? (i := 26) rfl)) (by decide) (met_3 _ Z a0 hw h0 n0 X44.size x0 (851968 : Int32) (917501 : Int32)) rfl d2_171 rfl own_pd0 rfl rfl 0 (Nat.le_of_eq rfl) (by decide) (by decide) rfl rfl ?_
                                intro T46 X47
                                refine own_if_ne M X47 d2_174 (by decide) rfl rfl (fun q48 => ?_) (fun q48 => ?_)
                                · skip
                                  refine own_iconst M X47 (v := (1 : Int32)) d2_188 rfl rfl ?_
                                  refine own_goto M X47 d2_189 (by decide) rfl ?_
                                  exact own_retN M X47 (z' := (1 : Int32)) (by simp) d2_193 rfl ⟨by rw [F2, if_pos q3, if_pos q6, if_pos q9, if_pos q12, if_pos q15, if_pos q18, if_pos q21, if_pos q24, if_pos q27, if_pos q30, if_pos q33, if_pos q36, if_pos q39, if_pos q42, if_pos q45, if_neg q48], rfl⟩
                                · skip
                                  refine own_iloadN M X47 d2_177 rfl rfl ?_
                                  refine own_ldc M X47 (hw _ (List.mem_of_getElem? (i := 52) rfl)) d2_178 rfl ?_
                                  refine own_ldc M X47 (hw _ (List.mem_of_getElem? (i := 53) rfl)) d2_180 rfl ?_
                                  refine own_callP M X47 (yrm := ({ frames := 0, cells := 0, slots := 0, locals := 0 } : Room)) [(.int x0), (.int (921600 : Int32)), (.int (983037 : Int32))] (hw _ (List.mem_of_getElem? (i := 24) rfl)) (hw _ (List.mem_of_getElem? (i := 25) rfl)) (hw _ (List.mem_of_getElem? (i := 22) rfl)) (hw _ (List.mem_of_getElem? (i := 26) rfl)) (by decide) (met_3 _ Z a0 hw h0 n0 X47.size x0 (921600 : Int32) (983037 : Int32)) rfl d2_182 rfl own_pd0 rfl rfl 0 (Nat.le_of_eq rfl) (by decide) (by decide) rfl rfl ?_
                                  intro T49 X50
                                  refine own_if_eq M X50 d2_185 (by decide) rfl rfl (fun q51 => ?_) (fun q51 => ?_)
                                  · skip
                                    refine own_iconst M X50 (v := (0 : Int32)) d2_192 rfl rfl ?_
                                    exact own_retN M X50 (z' := (0 : Int32)) (by simp) d2_193 rfl ⟨by rw [F2, if_pos q3, if_pos q6, if_pos q9, if_pos q12, if_pos q15, if_pos q18, if_pos q21, if_pos q24, if_pos q27, if_pos q30, if_pos q33, if_pos q36, if_pos q39, if_pos q42, if_pos q45, if_pos q48, if_pos q51], rfl⟩
                                  · skip
                                    refine own_iconst M X50 (v := (1 : Int32)) d2_188 rfl rfl ?_
                                    refine own_goto M X50 d2_189 (by decide) rfl ?_
                                    exact own_retN M X50 (z' := (1 : Int32)) (by simp) d2_193 rfl ⟨by rw [F2, if_pos q3, if_pos q6, if_pos q9, if_pos q12, if_pos q15, if_pos q18, if_pos q21, if_pos q24, if_pos q27, if_pos q30, if_pos q33, if_pos q36, if_pos q39, if_pos q42, if_pos q45, if_pos q48, if_neg q51], rfl⟩
theorem own_ix1 (x : Int32) : ((x &&& (255 : Int32)) % (13 : Int32)).toInt = (((x &&& (255 : Int32)) % (13 : Int32)).toInt.toNat : Int) ∧ ((x &&& (255 : Int32)) % (13 : Int32)).toInt.toNat < 13 := by
  have e1 : (x &&& 255).toInt = x.toInt % 2 ^ 8 := Jvm.Kit.i32_mask x 255 (k := 8) (by decide) (by decide)
  have e2 : ((x &&& 255) % 13).toInt = (x &&& 255).toInt % 13 := Jvm.Kit.i32_rem_nonneg (by omega)
  omega
theorem own_ix2 (x : Int32) : (x &&& (3 : Int32)).toInt = ((x &&& (3 : Int32)).toInt.toNat : Int) ∧ (x &&& (3 : Int32)).toInt.toNat < 4 := by
  have e1 : (x &&& 3).toInt = x.toInt % 2 ^ 2 := Jvm.Kit.i32_mask x 3 (k := 2) (by decide) (by decide)
  omega
def T0_198 (u9 : Int32) : Int32 := (if (F1 u9) = (F2 u9) then (1 : Int32) else (0 : Int32))
set_option maxRecDepth 65536 in
set_option maxHeartbeats 40000000 in
theorem tl0_198 (l : Launch) (Z : State) (a0 : Array Value) (hw : ∀ d ∈ tables_1, d.before a0 Z = true) {n0 : Nat} {K : own_Cx} {P : Option Value → Heap → Prop} {T : State} {h : Heap} (M : own_Mx Z a0 K code "com/example/tunnus/tunnus/CharClassesIsUcscharPinLaw" maxLocals ret room_1) (X : own_Sx n0 K T h 2 17) (u0 : Int32) (u1 : Int32) (u2 : Int32) (u3 : Int32) (u4 : Int32) (u5 : Int32) (u6 : Addr) (u7 : Addr) (u8 : Int32) (u9 : Int32)
    (hP : ∀ hh, P (some (.int (T0_198 u9))) hh) : own_Fin n0 K P T 198 #[.val (.int u0), .val (.int u1), .val (.int u2), .val (.int u3), .val (.int u4), .val (.int u5), .val (.ref u6), .val (.ref u7), .val (.int u8), .val (.int u9)] [] := by
  refine own_iload M X at_198 rfl rfl ?_
  refine own_callP M X (yrm := ({ frames := 0, cells := 0, slots := 0, locals := 0 } : Room)) [(.int u9)] (hw _ (List.mem_of_getElem? (i := 13) rfl)) (hw _ (List.mem_of_getElem? (i := 14) rfl)) (hw _ (List.mem_of_getElem? (i := 15) rfl)) (hw _ (List.mem_of_getElem? (i := 16) rfl)) (by decide) (met_1 _ Z a0 hw h n0 X.size u9) rfl at_200 rfl own_pd1 rfl rfl 0 (Nat.le_of_eq rfl) (by decide) (by decide) rfl rfl ?_
  intro T1 X2
  refine own_iload M X2 at_203 rfl rfl ?_
  refine own_callP M X2 (yrm := ({ frames := 1, cells := 0, slots := 0, locals := 14 } : Room)) [(.int u9)] (hw _ (List.mem_of_getElem? (i := 20) rfl)) (hw _ (List.mem_of_getElem? (i := 21) rfl)) (hw _ (List.mem_of_getElem? (i := 22) rfl)) (hw _ (List.mem_of_getElem? (i := 23) rfl)) (by decide) (met_2 _ Z a0 hw h n0 X2.size u9) rfl at_205 rfl own_pd1 rfl rfl 1 (Nat.le_of_eq rfl) (by decide) (by decide) rfl rfl ?_
  intro T3 X4
  refine own_icmp_ne M X4 at_208 (by decide) rfl rfl (fun q5 => ?_) (fun q5 => ?_)
  · skip
    refine own_iconst M X4 (v := (0 : Int32)) at_215 rfl rfl ?_
    exact own_retN M X4 (z' := (0 : Int32)) (by simp) at_216 rfl (by have hP1 := hP h; rw [T0_198, if_neg q5] at hP1; exact hP1)
  · skip
    refine own_iconst M X4 (v := (1 : Int32)) at_211 rfl rfl ?_
    refine own_goto M X4 at_212 (by decide) rfl ?_
    exact own_retN M X4 (z' := (1 : Int32)) (by simp) at_216 rfl (by have hP1 := hP h; rw [T0_198, if_pos q5] at hP1; exact hP1)
def F0 (x0 : Int32) (x1 : Int32) (x2 : Int32) (x3 : Int32) (x4 : Int32) : Int32 := (if (x4 &&& (3 : Int32)) = (0 : Int32) then (T0_198 x0) else (if (x4 &&& (3 : Int32)) = (1 : Int32) then (T0_198 (((x1 &&& (31 : Int32)) <<< ((16 : Int32) &&& 31)) ||| (x2 &&& (65535 : Int32)))) else (if (x4 &&& (3 : Int32)) = (2 : Int32) then (T0_198 ((([(0 : Int32), (127 : Int32), (160 : Int32), (55295 : Int32), (57344 : Int32), (63744 : Int32), (64975 : Int32), (65008 : Int32), (65519 : Int32), (1114109 : Int32), (1114112 : Int32), (2147483647 : Int32), (-2147483648 : Int32)] : List Int32).getD (((x3 &&& (255 : Int32)) % (13 : Int32))).toInt.toNat 0) + ((((x3.toUInt32 >>> ((8 : Int32) &&& 31).toUInt32).toInt32) % (5 : Int32)) - (2 : Int32)))) else (T0_198 ((((x1 &&& (31 : Int32)) <<< ((16 : Int32) &&& 31)) + (([(0 : Int32), (4096 : Int32), (65533 : Int32), (65536 : Int32)] : List Int32).getD ((x3 &&& (3 : Int32))).toInt.toNat 0)) + ((((x3.toUInt32 >>> ((8 : Int32) &&& 31).toUInt32).toInt32) % (5 : Int32)) - (2 : Int32)))))))
theorem own_pn0 : plainName "com/example/tunnus/tunnus/CharClassesIsUcscharPinLaw" = true := by first | (simp [plainName, overriddenIn]; done) | decide +kernel
set_option maxRecDepth 65536 in
set_option maxHeartbeats 40000000 in
theorem met_0 (l : Launch) (Z : State) (a0 : Array Value) (hw : ∀ d ∈ tables_1, d.before a0 Z = true) (h0 : Heap) (n0 : Nat) (hn : n0 ≤ h0.size) (x0 : Int32) (x1 : Int32) (x2 : Int32) (x3 : Int32) (x4 : Int32) : own_Met l Z n0 x code maxLocals ret room_1 #[(.int x0), (.int x1), (.int x2), (.int x3), (.int x4)] h0 (fun v h => v = some (.int (F0 x0 x1 x2 x3 x4))) := by
  refine own_enter (L := #[.val (.int x0), .val (.int x1), .val (.int x2), .val (.int x3), .val (.int x4), .unset, .unset, .unset, .unset, .unset]) (plainFor_of_name own_pn0) hw hn (fun m => by first | (simp [entryFrame, mkF, argsToLocals, Value.category, maxLocals]; done) | rfl) (fun K T hK M X => ?_)
  refine own_iloadN M X at_0 rfl rfl ?_
  refine own_bipush M X (v := (8 : Int32)) at_1 rfl rfl ?_
  refine own_iushr M X at_3 rfl ?_
  refine own_iconst M X (v := (5 : Int32)) at_4 rfl rfl ?_
  refine own_irem M X at_5 (by decide) rfl ?_
  refine own_iconst M X (v := (2 : Int32)) at_6 rfl rfl ?_
  refine own_isub M X at_7 rfl ?_
  refine own_istore M X (L' := #[.val (.int x0), .val (.int x1), .val (.int x2), .val (.int x3), .val (.int x4), .val (.int ((((x3.toUInt32 >>> ((8 : Int32) &&& 31).toUInt32).toInt32) % (5 : Int32)) - (2 : Int32))), .unset, .unset, .unset, .unset]) at_8 rfl rfl ?_
  refine own_bipush M X (v := (13 : Int32)) at_10 rfl rfl ?_
  refine own_newarray M X (n := 13) 13 (hw _ (List.mem_of_getElem? (i := 0) rfl)) at_12 rfl (by decide) (by decide) (by decide) (by decide) (by decide) ?_
  intro T1 h2 a3 ge4 gs5 X6 E7 V8
  replace V8 : own_Va Z h2 a3 .int 13 (own_lsi [(0 : Int32), (0 : Int32), (0 : Int32), (0 : Int32), (0 : Int32), (0 : Int32), (0 : Int32), (0 : Int32), (0 : Int32), (0 : Int32), (0 : Int32), (0 : Int32), (0 : Int32)]) := V8.congr (own_zeroi _ _ rfl)
  refine own_dup M X6 at_14 rfl rfl ?_
  refine own_iconst M X6 (v := (0 : Int32)) at_15 rfl rfl ?_
  refine own_iconst M X6 (v := (0 : Int32)) at_16 rfl rfl ?_
  refine own_iastore M X6 V8 ge4 (i := 0) (by decide) (by decide) at_17 rfl ?_
  intro T9 h10 X11 K12 V13
  replace V13 : own_Va Z h10 a3 .int 13 (own_lsi [(0 : Int32), (0 : Int32), (0 : Int32), (0 : Int32), (0 : Int32), (0 : Int32), (0 : Int32), (0 : Int32), (0 : Int32), (0 : Int32), (0 : Int32), (0 : Int32), (0 : Int32)]) := V13.congr (own_seti rfl (by simp))
  refine own_dup M X11 at_18 rfl rfl ?_
  refine own_iconst M X11 (v := (1 : Int32)) at_19 rfl rfl ?_
  refine own_bipush M X11 (v := (127 : Int32)) at_20 rfl rfl ?_
  refine own_iastore M X11 V13 ge4 (i := 1) (by decide) (by decide) at_22 rfl ?_
  intro T14 h15 X16 K17 V18
  replace V18 : own_Va Z h15 a3 .int 13 (own_lsi [(0 : Int32), (127 : Int32), (0 : Int32), (0 : Int32), (0 : Int32), (0 : Int32), (0 : Int32), (0 : Int32), (0 : Int32), (0 : Int32), (0 : Int32), (0 : Int32), (0 : Int32)]) := V18.congr (own_seti rfl (by simp))
  refine own_dup M X16 at_23 rfl rfl ?_
  refine own_iconst M X16 (v := (2 : Int32)) at_24 rfl rfl ?_
  refine own_sipush M X16 (v := (160 : Int32)) at_25 rfl rfl ?_
  refine own_iastore M X16 V18 ge4 (i := 2) (by decide) (by decide) at_28 rfl ?_
  intro T19 h20 X21 K22 V23
  replace V23 : own_Va Z h20 a3 .int 13 (own_lsi [(0 : Int32), (127 : Int32), (160 : Int32), (0 : Int32), (0 : Int32), (0 : Int32), (0 : Int32), (0 : Int32), (0 : Int32), (0 : Int32), (0 : Int32), (0 : Int32), (0 : Int32)]) := V23.congr (own_seti rfl (by simp))
  refine own_dup M X21 at_29 rfl rfl ?_
  refine own_iconst M X21 (v := (3 : Int32)) at_30 rfl rfl ?_
  refine own_ldc M X21 (hw _ (List.mem_of_getElem? (i := 1) rfl)) at_31 rfl ?_
  refine own_iastore M X21 V23 ge4 (i := 3) (by decide) (by decide) at_33 rfl ?_
  intro T24 h25 X26 K27 V28
  replace V28 : own_Va Z h25 a3 .int 13 (own_lsi [(0 : Int32), (127 : Int32), (160 : Int32), (55295 : Int32), (0 : Int32), (0 : Int32), (0 : Int32), (0 : Int32), (0 : Int32), (0 : Int32), (0 : Int32), (0 : Int32), (0 : Int32)]) := V28.congr (own_seti rfl (by simp))
  refine own_dup M X26 at_34 rfl rfl ?_
  refine own_iconst M X26 (v := (4 : Int32)) at_35 rfl rfl ?_
  refine own_ldc M X26 (hw _ (List.mem_of_getElem? (i := 2) rfl)) at_36 rfl ?_
  refine own_iastore M X26 V28 ge4 (i := 4) (by decide) (by decide) at_38 rfl ?_
  intro T29 h30 X31 K32 V33
  replace V33 : own_Va Z h30 a3 .int 13 (own_lsi [(0 : Int32), (127 : Int32), (160 : Int32), (55295 : Int32), (57344 : Int32), (0 : Int32), (0 : Int32), (0 : Int32), (0 : Int32), (0 : Int32), (0 : Int32), (0 : Int32), (0 : Int32)]) := V33.congr (own_seti rfl (by simp))
  refine own_dup M X31 at_39 rfl rfl ?_
  refine own_iconst M X31 (v := (5 : Int32)) at_40 rfl rfl ?_
  refine own_ldc M X31 (hw _ (List.mem_of_getElem? (i := 3) rfl)) at_41 rfl ?_
  refine own_iastore M X31 V33 ge4 (i := 5) (by decide) (by decide) at_43 rfl ?_
  intro T34 h35 X36 K37 V38
  replace V38 : own_Va Z h35 a3 .int 13 (own_lsi [(0 : Int32), (127 : Int32), (160 : Int32), (55295 : Int32), (57344 : Int32), (63744 : Int32), (0 : Int32), (0 : Int32), (0 : Int32), (0 : Int32), (0 : Int32), (0 : Int32), (0 : Int32)]) := V38.congr (own_seti rfl (by simp))
  refine own_dup M X36 at_44 rfl rfl ?_
  refine own_bipush M X36 (v := (6 : Int32)) at_45 rfl rfl ?_
  refine own_ldc M X36 (hw _ (List.mem_of_getElem? (i := 4) rfl)) at_47 rfl ?_
  refine own_iastore M X36 V38 ge4 (i := 6) (by decide) (by decide) at_49 rfl ?_
  intro T39 h40 X41 K42 V43
  replace V43 : own_Va Z h40 a3 .int 13 (own_lsi [(0 : Int32), (127 : Int32), (160 : Int32), (55295 : Int32), (57344 : Int32), (63744 : Int32), (64975 : Int32), (0 : Int32), (0 : Int32), (0 : Int32), (0 : Int32), (0 : Int32), (0 : Int32)]) := V43.congr (own_seti rfl (by simp))
  refine own_dup M X41 at_50 rfl rfl ?_
  refine own_bipush M X41 (v := (7 : Int32)) at_51 rfl rfl ?_
  refine own_ldc M X41 (hw _ (List.mem_of_getElem? (i := 5) rfl)) at_53 rfl ?_
  refine own_iastore M X41 V43 ge4 (i := 7) (by decide) (by decide) at_55 rfl ?_
  intro T44 h45 X46 K47 V48
  replace V48 : own_Va Z h45 a3 .int 13 (own_lsi [(0 : Int32), (127 : Int32), (160 : Int32), (55295 : Int32), (57344 : Int32), (63744 : Int32), (64975 : Int32), (65008 : Int32), (0 : Int32), (0 : Int32), (0 : Int32), (0 : Int32), (0 : Int32)]) := V48.congr (own_seti rfl (by simp))
  refine own_dup M X46 at_56 rfl rfl ?_
  refine own_bipush M X46 (v := (8 : Int32)) at_57 rfl rfl ?_
  refine own_ldc M X46 (hw _ (List.mem_of_getElem? (i := 6) rfl)) at_59 rfl ?_
  refine own_iastore M X46 V48 ge4 (i := 8) (by decide) (by decide) at_61 rfl ?_
  intro T49 h50 X51 K52 V53
  replace V53 : own_Va Z h50 a3 .int 13 (own_lsi [(0 : Int32), (127 : Int32), (160 : Int32), (55295 : Int32), (57344 : Int32), (63744 : Int32), (64975 : Int32), (65008 : Int32), (65519 : Int32), (0 : Int32), (0 : Int32), (0 : Int32), (0 : Int32)]) := V53.congr (own_seti rfl (by simp))
  refine own_dup M X51 at_62 rfl rfl ?_
  refine own_bipush M X51 (v := (9 : Int32)) at_63 rfl rfl ?_
  refine own_ldc M X51 (hw _ (List.mem_of_getElem? (i := 7) rfl)) at_65 rfl ?_
  refine own_iastore M X51 V53 ge4 (i := 9) (by decide) (by decide) at_67 rfl ?_
  intro T54 h55 X56 K57 V58
  replace V58 : own_Va Z h55 a3 .int 13 (own_lsi [(0 : Int32), (127 : Int32), (160 : Int32), (55295 : Int32), (57344 : Int32), (63744 : Int32), (64975 : Int32), (65008 : Int32), (65519 : Int32), (1114109 : Int32), (0 : Int32), (0 : Int32), (0 : Int32)]) := V58.congr (own_seti rfl (by simp))
  refine own_dup M X56 at_68 rfl rfl ?_
  refine own_bipush M X56 (v := (10 : Int32)) at_69 rfl rfl ?_
  refine own_ldc M X56 (hw _ (List.mem_of_getElem? (i := 8) rfl)) at_71 rfl ?_
  refine own_iastore M X56 V58 ge4 (i := 10) (by decide) (by decide) at_73 rfl ?_
  intro T59 h60 X61 K62 V63
  replace V63 : own_Va Z h60 a3 .int 13 (own_lsi [(0 : Int32), (127 : Int32), (160 : Int32), (55295 : Int32), (57344 : Int32), (63744 : Int32), (64975 : Int32), (65008 : Int32), (65519 : Int32), (1114109 : Int32), (1114112 : Int32), (0 : Int32), (0 : Int32)]) := V63.congr (own_seti rfl (by simp))
  refine own_dup M X61 at_74 rfl rfl ?_
  refine own_bipush M X61 (v := (11 : Int32)) at_75 rfl rfl ?_
  refine own_ldc M X61 (hw _ (List.mem_of_getElem? (i := 9) rfl)) at_77 rfl ?_
  refine own_iastore M X61 V63 ge4 (i := 11) (by decide) (by decide) at_79 rfl ?_
  intro T64 h65 X66 K67 V68
  replace V68 : own_Va Z h65 a3 .int 13 (own_lsi [(0 : Int32), (127 : Int32), (160 : Int32), (55295 : Int32), (57344 : Int32), (63744 : Int32), (64975 : Int32), (65008 : Int32), (65519 : Int32), (1114109 : Int32), (1114112 : Int32), (2147483647 : Int32), (0 : Int32)]) := V68.congr (own_seti rfl (by simp))
  refine own_dup M X66 at_80 rfl rfl ?_
  refine own_bipush M X66 (v := (12 : Int32)) at_81 rfl rfl ?_
  refine own_ldc M X66 (hw _ (List.mem_of_getElem? (i := 10) rfl)) at_83 rfl ?_
  refine own_iastore M X66 V68 ge4 (i := 12) (by decide) (by decide) at_85 rfl ?_
  intro T69 h70 X71 K72 V73
  replace V73 : own_Va Z h70 a3 .int 13 (own_lsi [(0 : Int32), (127 : Int32), (160 : Int32), (55295 : Int32), (57344 : Int32), (63744 : Int32), (64975 : Int32), (65008 : Int32), (65519 : Int32), (1114109 : Int32), (1114112 : Int32), (2147483647 : Int32), (-2147483648 : Int32)]) := V73.congr (own_seti rfl (by simp))
  refine own_astore M X71 (L' := #[.val (.int x0), .val (.int x1), .val (.int x2), .val (.int x3), .val (.int x4), .val (.int ((((x3.toUInt32 >>> ((8 : Int32) &&& 31).toUInt32).toInt32) % (5 : Int32)) - (2 : Int32))), .val (.ref a3), .unset, .unset, .unset]) at_86 rfl rfl rfl ?_
  refine own_iconst M X71 (v := (4 : Int32)) at_88 rfl rfl ?_
  refine own_newarray M X71 (n := 4) 4 (hw _ (List.mem_of_getElem? (i := 0) rfl)) at_89 rfl (by decide) (by decide) (by decide) (by decide) (by decide) ?_
  intro T74 h75 a76 ge77 gs78 X79 E80 V81
  have ne82 : a3 ≠ a76 := Nat.ne_of_lt (Nat.lt_of_lt_of_le V73.lt gs78)
  have V83 := V73.ext E80
  replace V81 : own_Va Z h75 a76 .int 4 (own_lsi [(0 : Int32), (0 : Int32), (0 : Int32), (0 : Int32)]) := V81.congr (own_zeroi _ _ rfl)
  refine own_dup M X79 at_91 rfl rfl ?_
  refine own_iconst M X79 (v := (0 : Int32)) at_92 rfl rfl ?_
  refine own_iconst M X79 (v := (0 : Int32)) at_93 rfl rfl ?_
  refine own_iastore M X79 V81 ge77 (i := 0) (by decide) (by decide) at_94 rfl ?_
  intro T84 h85 X86 K87 V88
  replace V88 : own_Va Z h85 a76 .int 4 (own_lsi [(0 : Int32), (0 : Int32), (0 : Int32), (0 : Int32)]) := V88.congr (own_seti rfl (by simp))
  have V89 := V83.keep K87 (ninS ne82 nin0)
  refine own_dup M X86 at_95 rfl rfl ?_
  refine own_iconst M X86 (v := (1 : Int32)) at_96 rfl rfl ?_
  refine own_sipush M X86 (v := (4096 : Int32)) at_97 rfl rfl ?_
  refine own_iastore M X86 V88 ge77 (i := 1) (by decide) (by decide) at_100 rfl ?_
  intro T90 h91 X92 K93 V94
  replace V94 : own_Va Z h91 a76 .int 4 (own_lsi [(0 : Int32), (4096 : Int32), (0 : Int32), (0 : Int32)]) := V94.congr (own_seti rfl (by simp))
  have V95 := V89.keep K93 (ninS ne82 nin0)
  refine own_dup M X92 at_101 rfl rfl ?_
  refine own_iconst M X92 (v := (2 : Int32)) at_102 rfl rfl ?_
  refine own_ldc M X92 (hw _ (List.mem_of_getElem? (i := 11) rfl)) at_103 rfl ?_
  refine own_iastore M X92 V94 ge77 (i := 2) (by decide) (by decide) at_105 rfl ?_
  intro T96 h97 X98 K99 V100
  replace V100 : own_Va Z h97 a76 .int 4 (own_lsi [(0 : Int32), (4096 : Int32), (65533 : Int32), (0 : Int32)]) := V100.congr (own_seti rfl (by simp))
  have V101 := V95.keep K99 (ninS ne82 nin0)
  refine own_dup M X98 at_106 rfl rfl ?_
  refine own_iconst M X98 (v := (3 : Int32)) at_107 rfl rfl ?_
  refine own_ldc M X98 (hw _ (List.mem_of_getElem? (i := 12) rfl)) at_108 rfl ?_
  refine own_iastore M X98 V100 ge77 (i := 3) (by decide) (by decide) at_110 rfl ?_
  intro T102 h103 X104 K105 V106
  replace V106 : own_Va Z h103 a76 .int 4 (own_lsi [(0 : Int32), (4096 : Int32), (65533 : Int32), (65536 : Int32)]) := V106.congr (own_seti rfl (by simp))
  have V107 := V101.keep K105 (ninS ne82 nin0)
  refine own_astore M X104 (L' := #[.val (.int x0), .val (.int x1), .val (.int x2), .val (.int x3), .val (.int x4), .val (.int ((((x3.toUInt32 >>> ((8 : Int32) &&& 31).toUInt32).toInt32) % (5 : Int32)) - (2 : Int32))), .val (.ref a3), .val (.ref a76), .unset, .unset]) at_111 rfl rfl rfl ?_
  refine own_iload M X104 at_113 rfl rfl ?_
  refine own_iconst M X104 (v := (3 : Int32)) at_115 rfl rfl ?_
  refine own_iand M X104 at_116 rfl ?_
  refine own_istore M X104 (L' := #[.val (.int x0), .val (.int x1), .val (.int x2), .val (.int x3), .val (.int x4), .val (.int ((((x3.toUInt32 >>> ((8 : Int32) &&& 31).toUInt32).toInt32) % (5 : Int32)) - (2 : Int32))), .val (.ref a3), .val (.ref a76), .val (.int (x4 &&& (3 : Int32))), .unset]) at_117 rfl rfl ?_
  refine own_iload M X104 at_119 rfl rfl ?_
  refine own_if_ne M X104 at_121 (by decide) rfl rfl (fun q108 => ?_) (fun q108 => ?_)
  · skip
    refine own_iload M X104 at_130 rfl rfl ?_
    refine own_iconst M X104 (v := (1 : Int32)) at_132 rfl rfl ?_
    refine own_icmp_ne M X104 at_133 (by decide) rfl rfl (fun q109 => ?_) (fun q109 => ?_)
    · skip
      refine own_iload M X104 at_153 rfl rfl ?_
      refine own_iconst M X104 (v := (2 : Int32)) at_155 rfl rfl ?_
      refine own_icmp_ne M X104 at_156 (by decide) rfl rfl (fun q110 => ?_) (fun q110 => ?_)
      · skip
        refine own_iloadN M X104 at_179 rfl rfl ?_
        refine own_bipush M X104 (v := (31 : Int32)) at_180 rfl rfl ?_
        refine own_iand M X104 at_182 rfl ?_
        refine own_bipush M X104 (v := (16 : Int32)) at_183 rfl rfl ?_
        refine own_ishl M X104 at_185 rfl ?_
        refine own_aload M X104 at_186 rfl rfl rfl ?_
        refine own_iloadN M X104 at_188 rfl rfl ?_
        refine own_iconst M X104 (v := (3 : Int32)) at_189 rfl rfl ?_
        refine own_iand M X104 at_190 rfl ?_
        refine own_iaload M X104 V106 (i := ((x3 &&& (3 : Int32))).toInt.toNat) (own_ix2 x3).1 (own_ix2 x3).2 rfl at_191 rfl ?_
        refine own_iadd M X104 at_192 rfl ?_
        refine own_iload M X104 at_193 rfl rfl ?_
        refine own_iadd M X104 at_195 rfl ?_
        refine own_istore M X104 (L' := #[.val (.int x0), .val (.int x1), .val (.int x2), .val (.int x3), .val (.int x4), .val (.int ((((x3.toUInt32 >>> ((8 : Int32) &&& 31).toUInt32).toInt32) % (5 : Int32)) - (2 : Int32))), .val (.ref a3), .val (.ref a76), .val (.int (x4 &&& (3 : Int32))), .val (.int ((((x1 &&& (31 : Int32)) <<< ((16 : Int32) &&& 31)) + (([(0 : Int32), (4096 : Int32), (65533 : Int32), (65536 : Int32)] : List Int32).getD ((x3 &&& (3 : Int32))).toInt.toNat 0)) + ((((x3.toUInt32 >>> ((8 : Int32) &&& 31).toUInt32).toInt32) % (5 : Int32)) - (2 : Int32))))]) at_196 rfl rfl ?_
        exact tl0_198 l Z a0 hw M X104 x0 x1 x2 x3 x4 ((((x3.toUInt32 >>> ((8 : Int32) &&& 31).toUInt32).toInt32) % (5 : Int32)) - (2 : Int32)) a3 a76 (x4 &&& (3 : Int32)) ((((x1 &&& (31 : Int32)) <<< ((16 : Int32) &&& 31)) + (([(0 : Int32), (4096 : Int32), (65533 : Int32), (65536 : Int32)] : List Int32).getD ((x3 &&& (3 : Int32))).toInt.toNat 0)) + ((((x3.toUInt32 >>> ((8 : Int32) &&& 31).toUInt32).toInt32) % (5 : Int32)) - (2 : Int32))) (fun hh => (by rw [F0, if_neg q108, if_neg q109, if_neg q110]))
      · skip
        refine own_aload M X104 at_159 rfl rfl rfl ?_
        refine own_iloadN M X104 at_161 rfl rfl ?_
        refine own_sipush M X104 (v := (255 : Int32)) at_162 rfl rfl ?_
        refine own_iand M X104 at_165 rfl ?_
        refine own_aload M X104 at_166 rfl rfl rfl ?_
        refine own_arraylength M X104 (z := (13 : Int32)) V107 (by decide) at_168 rfl ?_
        refine own_irem M X104 at_169 (by decide) rfl ?_
        refine own_iaload M X104 V107 (i := (((x3 &&& (255 : Int32)) % (13 : Int32))).toInt.toNat) (own_ix1 x3).1 (own_ix1 x3).2 rfl at_170 rfl ?_
        refine own_iload M X104 at_171 rfl rfl ?_
        refine own_iadd M X104 at_173 rfl ?_
        refine own_istore M X104 (L' := #[.val (.int x0), .val (.int x1), .val (.int x2), .val (.int x3), .val (.int x4), .val (.int ((((x3.toUInt32 >>> ((8 : Int32) &&& 31).toUInt32).toInt32) % (5 : Int32)) - (2 : Int32))), .val (.ref a3), .val (.ref a76), .val (.int (x4 &&& (3 : Int32))), .val (.int ((([(0 : Int32), (127 : Int32), (160 : Int32), (55295 : Int32), (57344 : Int32), (63744 : Int32), (64975 : Int32), (65008 : Int32), (65519 : Int32), (1114109 : Int32), (1114112 : Int32), (2147483647 : Int32), (-2147483648 : Int32)] : List Int32).getD (((x3 &&& (255 : Int32)) % (13 : Int32))).toInt.toNat 0) + ((((x3.toUInt32 >>> ((8 : Int32) &&& 31).toUInt32).toInt32) % (5 : Int32)) - (2 : Int32))))]) at_174 rfl rfl ?_
        refine own_goto M X104 at_176 (by decide) rfl ?_
        exact tl0_198 l Z a0 hw M X104 x0 x1 x2 x3 x4 ((((x3.toUInt32 >>> ((8 : Int32) &&& 31).toUInt32).toInt32) % (5 : Int32)) - (2 : Int32)) a3 a76 (x4 &&& (3 : Int32)) ((([(0 : Int32), (127 : Int32), (160 : Int32), (55295 : Int32), (57344 : Int32), (63744 : Int32), (64975 : Int32), (65008 : Int32), (65519 : Int32), (1114109 : Int32), (1114112 : Int32), (2147483647 : Int32), (-2147483648 : Int32)] : List Int32).getD (((x3 &&& (255 : Int32)) % (13 : Int32))).toInt.toNat 0) + ((((x3.toUInt32 >>> ((8 : Int32) &&& 31).toUInt32).toInt32) % (5 : Int32)) - (2 : Int32))) (fun hh => (by rw [F0, if_neg q108, if_neg q109, if_pos q110]))
    · skip
      refine own_iloadN M X104 at_136 rfl rfl ?_
      refine own_bipush M X104 (v := (31 : Int32)) at_137 rfl rfl ?_
      refine own_iand M X104 at_139 rfl ?_
      refine own_bipush M X104 (v := (16 : Int32)) at_140 rfl rfl ?_
      refine own_ishl M X104 at_142 rfl ?_
      refine own_iloadN M X104 at_143 rfl rfl ?_
      refine own_ldc M X104 (hw _ (List.mem_of_getElem? (i := 58) rfl)) at_144 rfl ?_
      refine own_iand M X104 at_146 rfl ?_
      refine own_ior M X104 at_147 rfl ?_
      refine own_istore M X104 (L' := #[.val (.int x0), .val (.int x1), .val (.int x2), .val (.int x3), .val (.int x4), .val (.int ((((x3.toUInt32 >>> ((8 : Int32) &&& 31).toUInt32).toInt32) % (5 : Int32)) - (2 : Int32))), .val (.ref a3), .val (.ref a76), .val (.int (x4 &&& (3 : Int32))), .val (.int (((x1 &&& (31 : Int32)) <<< ((16 : Int32) &&& 31)) ||| (x2 &&& (65535 : Int32))))]) at_148 rfl rfl ?_
      refine own_goto M X104 at_150 (by decide) rfl ?_
      exact tl0_198 l Z a0 hw M X104 x0 x1 x2 x3 x4 ((((x3.toUInt32 >>> ((8 : Int32) &&& 31).toUInt32).toInt32) % (5 : Int32)) - (2 : Int32)) a3 a76 (x4 &&& (3 : Int32)) (((x1 &&& (31 : Int32)) <<< ((16 : Int32) &&& 31)) ||| (x2 &&& (65535 : Int32))) (fun hh => (by rw [F0, if_neg q108, if_pos q109]))
  · skip
    refine own_iloadN M X104 at_124 rfl rfl ?_
    refine own_istore M X104 (L' := #[.val (.int x0), .val (.int x1), .val (.int x2), .val (.int x3), .val (.int x4), .val (.int ((((x3.toUInt32 >>> ((8 : Int32) &&& 31).toUInt32).toInt32) % (5 : Int32)) - (2 : Int32))), .val (.ref a3), .val (.ref a76), .val (.int (x4 &&& (3 : Int32))), .val (.int x0)]) at_125 rfl rfl ?_
    refine own_goto M X104 at_127 (by decide) rfl ?_
    exact tl0_198 l Z a0 hw M X104 x0 x1 x2 x3 x4 ((((x3.toUInt32 >>> ((8 : Int32) &&& 31).toUInt32).toInt32) % (5 : Int32)) - (2 : Int32)) a3 a76 (x4 &&& (3 : Int32)) x0 (fun hh => (by rw [F0, if_pos q108]))
theorem own_ushr (x : Int32) {n : UInt32} {k : Nat} (hn : n.toNat = k) (h1 : 0 < k) (hk : k < 32) : ((x.toUInt32 >>> n).toInt32).toInt = (x.toInt % 4294967296) / 2 ^ k := by
  have hb := x.toBitVec.isLt
  have e2 : ((x.toUInt32 >>> n).toInt32).toBitVec.toNat = x.toBitVec.toNat / 2 ^ k := by
    simp only [UInt32.toBitVec_toInt32, UInt32.toBitVec_shiftRight, Int32.toBitVec_toUInt32]
    simp [BitVec.toNat_ushiftRight, Nat.shiftRight_eq_div_pow, hn, Nat.mod_eq_of_lt hk]
  have hp : 2 ≤ 2 ^ k := Nat.le_trans (show 2 ≤ 2 ^ 1 from Nat.le_refl _) (Nat.pow_le_pow_right (by decide) h1)
  have hle : x.toBitVec.toNat / 2 ^ k ≤ x.toBitVec.toNat / 2 := Nat.div_le_div_left hp (by decide)
  have e3 : ((x.toUInt32 >>> n).toInt32).toInt = ((x.toBitVec.toNat / 2 ^ k : Nat) : Int) := by
    have : ((x.toUInt32 >>> n).toInt32).toInt = ((x.toUInt32 >>> n).toInt32).toBitVec.toInt := rfl
    rw [this, BitVec.toInt_eq_toNat_cond, e2, if_pos (by omega)]
  have e4 : x.toInt % 4294967296 = (x.toBitVec.toNat : Int) := by
    have : x.toInt = x.toBitVec.toInt := rfl
    rw [this, BitVec.toInt_eq_toNat_cond]
    split <;> omega
  rw [e3, e4, Int.natCast_ediv, Int.natCast_pow]
  rfl
theorem own_T1_64 (u1 u2 : Int32) : T1_64 u1 u2 = if (u1.toInt = 14 ∧ 4096 ≤ u2.toInt ∧ u2.toInt ≤ 65533) then 1 else 0 := by
  unfold T1_64
  simp only [Int32.lt_iff_toInt_lt, ← Int32.toInt_inj, show (0 : Int32).toInt = 0 from by decide, show (1 : Int32).toInt = 1 from by decide, show (14 : Int32).toInt = 14 from by decide, show (4096 : Int32).toInt = 4096 from by decide, show (65533 : Int32).toInt = 65533 from by decide]
  repeat' split
  all_goals first | rfl | omega
theorem own_T1_47 (u1 u2 : Int32) : T1_47 u1 u2 = if (1 ≤ u1.toInt ∧ u1.toInt ≤ 13 ∧ u2.toInt ≤ 65533) ∨ (u1.toInt = 14 ∧ 4096 ≤ u2.toInt ∧ u2.toInt ≤ 65533) then 1 else 0 := by
  unfold T1_47
  rw [own_T1_64]
  simp only [Int32.lt_iff_toInt_lt, ← Int32.toInt_inj, show (0 : Int32).toInt = 0 from by decide, show (1 : Int32).toInt = 1 from by decide, show (13 : Int32).toInt = 13 from by decide, show (65533 : Int32).toInt = 65533 from by decide]
  repeat' split
  all_goals first | rfl | omega
theorem own_T1_35 (u0 u1 u2 : Int32) : T1_35 u0 u1 u2 = if (65008 ≤ u0.toInt ∧ u0.toInt ≤ 65519) ∨ (1 ≤ u1.toInt ∧ u1.toInt ≤ 13 ∧ u2.toInt ≤ 65533) ∨ (u1.toInt = 14 ∧ 4096 ≤ u2.toInt ∧ u2.toInt ≤ 65533) then 1 else 0 := by
  unfold T1_35
  rw [own_T1_47]
  simp only [Int32.lt_iff_toInt_lt, ← Int32.toInt_inj, show (0 : Int32).toInt = 0 from by decide, show (1 : Int32).toInt = 1 from by decide, show (65008 : Int32).toInt = 65008 from by decide, show (65519 : Int32).toInt = 65519 from by decide]
  repeat' split
  all_goals first | rfl | omega
theorem own_T1_23 (u0 u1 u2 : Int32) : T1_23 u0 u1 u2 = if (63744 ≤ u0.toInt ∧ u0.toInt ≤ 64975) ∨ (65008 ≤ u0.toInt ∧ u0.toInt ≤ 65519) ∨ (1 ≤ u1.toInt ∧ u1.toInt ≤ 13 ∧ u2.toInt ≤ 65533) ∨ (u1.toInt = 14 ∧ 4096 ≤ u2.toInt ∧ u2.toInt ≤ 65533) then 1 else 0 := by
  unfold T1_23
  rw [own_T1_35]
  simp only [Int32.lt_iff_toInt_lt, ← Int32.toInt_inj, show (0 : Int32).toInt = 0 from by decide, show (1 : Int32).toInt = 1 from by decide, show (63744 : Int32).toInt = 63744 from by decide, show (64975 : Int32).toInt = 64975 from by decide]
  repeat' split
  all_goals first | rfl | omega
theorem own_F1 (c : Int32) : F1 c = if (160 ≤ c.toInt ∧ c.toInt ≤ 55295) ∨ (63744 ≤ c.toInt ∧ c.toInt ≤ 64975) ∨ (65008 ≤ c.toInt ∧ c.toInt ≤ 65519) ∨ (1 ≤ (c.toInt % 4294967296) / 65536 ∧ (c.toInt % 4294967296) / 65536 ≤ 13 ∧ c.toInt % 65536 ≤ 65533) ∨ ((c.toInt % 4294967296) / 65536 = 14 ∧ 4096 ≤ c.toInt % 65536 ∧ c.toInt % 65536 ≤ 65533) then 1 else 0 := by
  unfold F1
  rw [own_T1_23]
  have e1 := own_ushr c (n := ((16 : Int32) &&& 31).toUInt32) (k := 16) (by decide) (by decide) (by decide)
  have e2 : (c &&& (65535 : Int32)).toInt = c.toInt % 2 ^ 16 := Jvm.Kit.i32_mask c 65535 (k := 16) (by decide) (by decide)
  simp only [Int32.lt_iff_toInt_lt, ← Int32.toInt_inj, e1, e2, show (0 : Int32).toInt = 0 from by decide, show (1 : Int32).toInt = 1 from by decide, show (160 : Int32).toInt = 160 from by decide, show (55295 : Int32).toInt = 55295 from by decide]
  repeat' split
  all_goals first | rfl | omega
theorem own_F3 (c lo hi : Int32) : F3 c lo hi = 0 ↔ ¬ (lo.toInt ≤ c.toInt ∧ c.toInt ≤ hi.toInt) := by
  unfold F3
  by_cases q1 : c < lo
  · rw [if_pos q1]; rw [Int32.lt_iff_toInt_lt] at q1; simp; omega
  · rw [if_neg q1]
    by_cases q2 : hi < c
    · rw [if_pos q2]; rw [Int32.lt_iff_toInt_lt] at q2; simp; omega
    · rw [if_neg q2]; rw [Int32.lt_iff_toInt_lt] at q1 q2; simp; omega
theorem own_F2 (c : Int32) : F2 c = if (160 ≤ c.toInt ∧ c.toInt ≤ 55295) ∨ (63744 ≤ c.toInt ∧ c.toInt ≤ 64975) ∨ (65008 ≤ c.toInt ∧ c.toInt ≤ 65519) ∨ (1 ≤ (c.toInt % 4294967296) / 65536 ∧ (c.toInt % 4294967296) / 65536 ≤ 13 ∧ c.toInt % 65536 ≤ 65533) ∨ ((c.toInt % 4294967296) / 65536 = 14 ∧ 4096 ≤ c.toInt % 65536 ∧ c.toInt % 65536 ≤ 65533) then 1 else 0 := by
  have hc1 := c.toInt_lt
  have hc2 := c.le_toInt
  unfold F2
  simp only [own_F3, show (160 : Int32).toInt = 160 from by decide, show (55295 : Int32).toInt = 55295 from by decide, show (63744 : Int32).toInt = 63744 from by decide, show (64975 : Int32).toInt = 64975 from by decide, show (65008 : Int32).toInt = 65008 from by decide, show (65519 : Int32).toInt = 65519 from by decide, show (65536 : Int32).toInt = 65536 from by decide, show (131069 : Int32).toInt = 131069 from by decide, show (131072 : Int32).toInt = 131072 from by decide, show (196605 : Int32).toInt = 196605 from by decide, show (196608 : Int32).toInt = 196608 from by decide, show (262141 : Int32).toInt = 262141 from by decide, show (262144 : Int32).toInt = 262144 from by decide, show (327677 : Int32).toInt = 327677 from by decide, show (327680 : Int32).toInt = 327680 from by decide, show (393213 : Int32).toInt = 393213 from by decide, show (393216 : Int32).toInt = 393216 from by decide, show (458749 : Int32).toInt = 458749 from by decide, show (458752 : Int32).toInt = 458752 from by decide, show (524285 : Int32).toInt = 524285 from by decide, show (524288 : Int32).toInt = 524288 from by decide, show (589821 : Int32).toInt = 589821 from by decide, show (589824 : Int32).toInt = 589824 from by decide, show (655357 : Int32).toInt = 655357 from by decide, show (655360 : Int32).toInt = 655360 from by decide, show (720893 : Int32).toInt = 720893 from by decide, show (720896 : Int32).toInt = 720896 from by decide, show (786429 : Int32).toInt = 786429 from by decide, show (786432 : Int32).toInt = 786432 from by decide, show (851965 : Int32).toInt = 851965 from by decide, show (851968 : Int32).toInt = 851968 from by decide, show (917501 : Int32).toInt = 917501 from by decide, show (921600 : Int32).toInt = 921600 from by decide, show (983037 : Int32).toInt = 983037 from by decide]
  by_cases q0 : 160 ≤ c.toInt ∧ c.toInt ≤ 55295
  · rw [if_neg (not_not_intro q0), if_pos (by omega)]
  · skip
    by_cases q1 : 63744 ≤ c.toInt ∧ c.toInt ≤ 64975
    · rw [if_pos q0, if_neg (not_not_intro q1), if_pos (by omega)]
    · skip
      by_cases q2 : 65008 ≤ c.toInt ∧ c.toInt ≤ 65519
      · rw [if_pos q0, if_pos q1, if_neg (not_not_intro q2), if_pos (by omega)]
      · skip
        by_cases q3 : 65536 ≤ c.toInt ∧ c.toInt ≤ 131069
        · rw [if_pos q0, if_pos q1, if_pos q2, if_neg (not_not_intro q3), if_pos (by omega)]
        · skip
          by_cases q4 : 131072 ≤ c.toInt ∧ c.toInt ≤ 196605
          · rw [if_pos q0, if_pos q1, if_pos q2, if_pos q3, if_neg (not_not_intro q4), if_pos (by omega)]
          · skip
            by_cases q5 : 196608 ≤ c.toInt ∧ c.toInt ≤ 262141
            · rw [if_pos q0, if_pos q1, if_pos q2, if_pos q3, if_pos q4, if_neg (not_not_intro q5), if_pos (by omega)]
            · skip
              by_cases q6 : 262144 ≤ c.toInt ∧ c.toInt ≤ 327677
              · rw [if_pos q0, if_pos q1, if_pos q2, if_pos q3, if_pos q4, if_pos q5, if_neg (not_not_intro q6), if_pos (by omega)]
              · skip
                by_cases q7 : 327680 ≤ c.toInt ∧ c.toInt ≤ 393213
                · rw [if_pos q0, if_pos q1, if_pos q2, if_pos q3, if_pos q4, if_pos q5, if_pos q6, if_neg (not_not_intro q7), if_pos (by omega)]
                · skip
                  by_cases q8 : 393216 ≤ c.toInt ∧ c.toInt ≤ 458749
                  · rw [if_pos q0, if_pos q1, if_pos q2, if_pos q3, if_pos q4, if_pos q5, if_pos q6, if_pos q7, if_neg (not_not_intro q8), if_pos (by omega)]
                  · skip
                    by_cases q9 : 458752 ≤ c.toInt ∧ c.toInt ≤ 524285
                    · rw [if_pos q0, if_pos q1, if_pos q2, if_pos q3, if_pos q4, if_pos q5, if_pos q6, if_pos q7, if_pos q8, if_neg (not_not_intro q9), if_pos (by omega)]
                    · skip
                      by_cases q10 : 524288 ≤ c.toInt ∧ c.toInt ≤ 589821
                      · rw [if_pos q0, if_pos q1, if_pos q2, if_pos q3, if_pos q4, if_pos q5, if_pos q6, if_pos q7, if_pos q8, if_pos q9, if_neg (not_not_intro q10), if_pos (by omega)]
                      · skip
                        by_cases q11 : 589824 ≤ c.toInt ∧ c.toInt ≤ 655357
                        · rw [if_pos q0, if_pos q1, if_pos q2, if_pos q3, if_pos q4, if_pos q5, if_pos q6, if_pos q7, if_pos q8, if_pos q9, if_pos q10, if_neg (not_not_intro q11), if_pos (by omega)]
                        · skip
                          by_cases q12 : 655360 ≤ c.toInt ∧ c.toInt ≤ 720893
                          · rw [if_pos q0, if_pos q1, if_pos q2, if_pos q3, if_pos q4, if_pos q5, if_pos q6, if_pos q7, if_pos q8, if_pos q9, if_pos q10, if_pos q11, if_neg (not_not_intro q12), if_pos (by omega)]
                          · skip
                            by_cases q13 : 720896 ≤ c.toInt ∧ c.toInt ≤ 786429
                            · rw [if_pos q0, if_pos q1, if_pos q2, if_pos q3, if_pos q4, if_pos q5, if_pos q6, if_pos q7, if_pos q8, if_pos q9, if_pos q10, if_pos q11, if_pos q12, if_neg (not_not_intro q13), if_pos (by omega)]
                            · skip
                              by_cases q14 : 786432 ≤ c.toInt ∧ c.toInt ≤ 851965
                              · rw [if_pos q0, if_pos q1, if_pos q2, if_pos q3, if_pos q4, if_pos q5, if_pos q6, if_pos q7, if_pos q8, if_pos q9, if_pos q10, if_pos q11, if_pos q12, if_pos q13, if_neg (not_not_intro q14), if_pos (by omega)]
                              · skip
                                by_cases q15 : 851968 ≤ c.toInt ∧ c.toInt ≤ 917501
                                · rw [if_pos q0, if_pos q1, if_pos q2, if_pos q3, if_pos q4, if_pos q5, if_pos q6, if_pos q7, if_pos q8, if_pos q9, if_pos q10, if_pos q11, if_pos q12, if_pos q13, if_pos q14, if_neg (not_not_intro q15), if_pos (by omega)]
                                · skip
                                  by_cases q16 : 921600 ≤ c.toInt ∧ c.toInt ≤ 983037
                                  · rw [if_pos q0, if_pos q1, if_pos q2, if_pos q3, if_pos q4, if_pos q5, if_pos q6, if_pos q7, if_pos q8, if_pos q9, if_pos q10, if_pos q11, if_pos q12, if_pos q13, if_pos q14, if_pos q15, if_neg (not_not_intro q16), if_pos (by omega)]
                                  · skip
                                    rw [if_pos q0, if_pos q1, if_pos q2, if_pos q3, if_pos q4, if_pos q5, if_pos q6, if_pos q7, if_pos q8, if_pos q9, if_pos q10, if_pos q11, if_pos q12, if_pos q13, if_pos q14, if_pos q15, if_pos q16, if_neg (by omega)]
theorem own_T0 (c : Int32) : T0_198 c = 1 := by
  unfold T0_198
  rw [own_F1, own_F2, if_pos rfl]
theorem own_law (x0 x1 x2 x3 x4 : Int32) : F0 x0 x1 x2 x3 x4 = 1 := by
  unfold F0
  simp only [own_T0, ite_self]
theorem own_result (x0 : Int32) (x1 : Int32) (x2 : Int32) (x3 : Int32) (x4 : Int32) {v : Option Value} (hv : v = some (.int (F0 x0 x1 x2 x3 x4))) : v = some (.int 1) := by rw [hv, own_law x0 x1 x2 x3 x4]
set_option maxRecDepth 65536 in
set_option maxHeartbeats 40000000 in
theorem comes_1 {Post : Tables → Env → Array Value → State → Outcome → State → Prop} (hpost : ∀ tb e args s v u, (limb_1_1.after args s (.returned v) u = true ∧ limb_1_2.after args s (.returned v) u = true ∧ True) → FrameEnd s (.returned v) u (Jvm.fieldLocs frame_1_writes args s ++ Jvm.arrayLocs frame_1_arrays args s ++ Jvm.staticLocs frame_1_statics s) 16 128 → Post tb e args s (.returned v) u) :
    ArmFor flags0 classFile x code maxLocals ret World_1 tables_1 room_1 Calls_1 rest_1 Pre_1 Post := by
  intro l hfl _ _ p e ha hc hk s m args below hf hA hF happ hP
  obtain ⟨hcalls, hrest, hpre⟩ := hP
  obtain ⟨-, -, -, hnamed, -, -, -, hat⟩ := (Spec.applies_iff hf).mp happ
  obtain ⟨hg, hn⟩ := and_e (Cond.before_iff.mp (show (Jvm.Cond.and given_1 narrow_1).before args s = true from hpre))
  obtain ⟨g1, g2⟩ := and_e hg
  obtain ⟨g3, g4⟩ := and_e g2
  obtain ⟨g5, g6⟩ := and_e g4
  obtain ⟨g7, g8⟩ := and_e g6
  obtain ⟨g9, g10⟩ := and_e g8
  obtain ⟨w0, w1, w2, w3, w4, rfl⟩ : ∃ w0 w1 w2 w3 w4 : Value, args = #[w0, w1, w2, w3, w4] := by
    have hs : args.size = 5 := by simpa [Cond.value, given_1] using g1
    obtain ⟨L⟩ := args
    match L, hs with
    | [w0, w1, w2, w3, w4], _ => exact ⟨w0, w1, w2, w3, w4, rfl⟩
  have hw := fun d (hd : d ∈ tables_1) => atoms_spec (ws := Jvm.Cond.code x code maxLocals ret :: tables_1) hat d (List.mem_cons_of_mem _ hd)
  obtain ⟨i0, ei0⟩ := is_v g3
  obtain rfl : w0 = (.int i0) := Option.some.inj ei0
  obtain ⟨i1, ei1⟩ := is_v g5
  obtain rfl : w1 = (.int i1) := Option.some.inj ei1
  obtain ⟨i2, ei2⟩ := is_v g7
  obtain rfl : w2 = (.int i2) := Option.some.inj ei2
  obtain ⟨i3, ei3⟩ := is_v g9
  obtain rfl : w3 = (.int i3) := Option.some.inj ei3
  obtain ⟨i4, ei4⟩ := is_v g10
  obtain rfl : w4 = (.int i4) := Option.some.inj ei4
  obtain ⟨n, o, h1, h2, h3, v, L, rfl, ⟨hv, N⟩, hq⟩ := met_0 l s _ hw s.heap s.heap.size (Nat.le_refl _) i0 i1 i2 i3 i4 tables_1 p e ha hc hk s m _ below hf ((Spec.applies_iff_loose hf).mp happ).1 ⟨rfl, State.Warmed39.refl s, rfl⟩ trivial
  obtain rfl : v = some (.int 1) := own_result i0 i1 i2 i3 i4 hv
  refine ⟨n, _, h1, h2, h3, hpost _ _ _ _ _ _ ⟨Cond.after_iff.mpr rfl, Cond.after_iff.mpr (eq_i res_at (Term.int_eval (1)) rfl), trivial⟩ ⟨hq.1, hq.2.1, (hq.2.2.sift fun y hy => Or.inr (N y hy)).mono (by decide) (by decide)⟩⟩
theorem main_1_1 : Claimed_1_1 := comes_1 fun _ _ _ _ _ _ h hF => ⟨h.1, hF⟩
theorem main_1_2 : Claimed_1_2 := comes_1 fun _ _ _ _ _ _ h hF => ⟨h.2.1, hF⟩
end Jvm.Pilot.@@N@@
namespace Jvm.Pilot.@@N@@
open Jvm Jvm.ClassFile Sem Op Lib Jvm.Free Jvm.Stand Jvm.Pilot.@@N@@.Jvm.D
/-! MADE BY PROGRAM (witnessworld.py) out of the Statement's table words and the real class files: 9 classes; the members and pool entries that the words name. The judged class is class 1, her method 3. -/
namespace start1
open Jvm.ClassFile
def u (s : String) : CpInfo := .utf8 (stringToUtf16 s)
/-- a pool by its gaps: so many unusable entries, then the entry; so many at the end -/
def gap : Nat → List CpInfo → List CpInfo
  | 0, r => r
  | n + 1, r => .unusable :: gap n r
def poolList (es : List (Nat × CpInfo)) (last : Nat) : List CpInfo := es.foldr (fun e r => gap e.1 (e.2 :: r)) (gap last [])
def pool (es : List (Nat × CpInfo)) (last : Nat) : Array CpInfo := ⟨poolList es last⟩
def fileOf (pool : Array CpInfo) (this : Nat) (attrs : Array Attribute := #[]) (ms : Array MethodInfo := #[]) (fl : Nat := 33) (sup : Nat := 0) (ifs : Array Nat := #[]) (fds : Array FieldInfo := #[]) : ClassFile where
  minorVersion := 0
  majorVersion := 65
  constantPool := pool
  accessFlags := fl
  thisClass := this
  superClass := sup
  interfaces := ifs
  fields := fds
  methods := ms
  attributes := attrs
def plain (name : String) (sup : Option ClassId) : Class where
  name := name
  kind := .ordinary
  loader := none
  accessFlags := 33
  super := sup
  interfaces := #[]
  cf := none
  fields := #[]
  methods := #[]
  instanceTypes := #[]
  staticTypes := #[]
  resolved := #[]
  callSites := []
  init := .initialized
  statics := none
  mirror := none

def pool0 : Array CpInfo := pool [(5, u "<init>"), (0, u "()V"), (1, .class_ 10), (1, u "java/lang/Object")] 113

def k0m0 : Method := { name := "<init>", desc := "()V", sig := { parameters := [], returnType := none }, accessFlags := 1, code := none }
/-- java/lang/Object -/
def k0 : Class := { plain "java/lang/Object" none with
  accessFlags := 33
  interfaces := #[]
  cf := some (fileOf pool0 8 #[] #[{ accessFlags := 1, nameIndex := 5, descriptorIndex := 6, attributes := #[] }] 33 0 #[] #[])
  fields := #[]
  methods := #[k0m0]
  instanceTypes := #[]
  staticTypes := #[]
  resolved := Array.replicate 124 none
  statics := none }

def pool1 : Array CpInfo := pool [(2, .class_ 4), (1, u "java/lang/Object"), (0, u "<init>"), (0, u "()V"), (0, .integer 55295), (0, .methodref 9 10), (0, .class_ 11), (0, .nameAndType 12 13), (0, u "com/example/tunnus/tunnus/CharClassesIsUcscharPinLaw"), (0, u "in"), (0, u "(III)Z"), (0, .integer 63744), (0, .integer 64975), (0, .integer 65008), (0, .integer 65519), (0, .integer 65536), (0, .integer 131069), (0, .integer 131072), (0, .integer 196605), (0, .integer 196608), (0, .integer 262141), (0, .integer 262144), (0, .integer 327677), (0, .integer 327680), (0, .integer 393213), (0, .integer 393216), (0, .integer 458749), (0, .integer 458752), (0, .integer 524285), (0, .integer 524288), (0, .integer 589821), (0, .integer 589824), (0, .integer 655357), (0, .integer 655360), (0, .integer 720893), (0, .integer 720896), (0, .integer 786429), (0, .integer 786432), (0, .integer 851965), (0, .integer 851968), (0, .integer 917501), (0, .integer 921600), (0, .integer 983037), (0, .integer 57344), (0, .integer 1114109), (0, .integer 1114112), (2, .integer 2147483647), (0, .integer 2147483648), (0, .integer 65533), (0, .integer 65535), (0, .methodref 56 57), (0, .class_ 58), (0, .nameAndType 59 60), (0, u "com/example/tunnus/tunnus/CharClasses"), (0, u "isUcschar"), (0, u "(I)Z"), (0, .methodref 9 62), (0, .nameAndType 63 60), (0, u "ref"), (3, u "law"), (0, u "(IIIII)Z")] 4

def k1m0 : Method := { name := "<init>", desc := "()V", sig := { parameters := [], returnType := none }, accessFlags := 2, code := none }
def k1c1 : Code := { maxStack := 2, maxLocals := 3, code := method_2_code, exceptionTable := #[], attributes := #[] }
def k1m1 : Method := { name := "in", desc := "(III)Z", sig := { parameters := [.int, .int, .int], returnType := some .boolean }, accessFlags := 10, code := some k1c1 }
def k1c2 : Code := { maxStack := 3, maxLocals := 1, code := method_3_code, exceptionTable := #[], attributes := #[] }
def k1m2 : Method := { name := "ref", desc := "(I)Z", sig := { parameters := [.int], returnType := some .boolean }, accessFlags := 10, code := some k1c2 }
def k1c3 : Code := { maxStack := 4, maxLocals := 10, code := code, exceptionTable := #[], attributes := #[] }
def k1m3 : Method := { name := "law", desc := "(IIIII)Z", sig := { parameters := [.int, .int, .int, .int, .int], returnType := some .boolean }, accessFlags := 9, code := some k1c3 }
/-- com/example/tunnus/tunnus/CharClassesIsUcscharPinLaw -/
def k1 : Class := { plain "com/example/tunnus/tunnus/CharClassesIsUcscharPinLaw" (some 0) with
  accessFlags := 49
  interfaces := #[]
  cf := some (fileOf pool1 9 #[] #[{ accessFlags := 2, nameIndex := 5, descriptorIndex := 6, attributes := #[] }, { accessFlags := 10, nameIndex := 12, descriptorIndex := 13, attributes := #[] }, { accessFlags := 10, nameIndex := 63, descriptorIndex := 60, attributes := #[] }, { accessFlags := 9, nameIndex := 67, descriptorIndex := 68, attributes := #[] }] 49 2 #[] #[])
  fields := #[]
  methods := #[k1m0, k1m1, k1m2, k1m3]
  instanceTypes := #[]
  staticTypes := #[]
  resolved := Array.replicate 73 none
  statics := none }

def pool2 : Array CpInfo := pool [(2, .class_ 4), (1, u "java/lang/Object"), (0, u "<init>"), (0, u "()V"), (1, .class_ 10), (1, u "com/example/tunnus/tunnus/CharClasses"), (1, u "(I)Z"), (3, .integer 65535), (0, .integer 55295), (0, .integer 63744), (0, .integer 64975), (0, .integer 65008), (0, .integer 65519), (0, .integer 65533), (6, u "isUcschar")] 19

def k2m0 : Method := { name := "<init>", desc := "()V", sig := { parameters := [], returnType := none }, accessFlags := 2, code := none }
def k2c1 : Code := { maxStack := 2, maxLocals := 3, code := prog_1_method_10_code, exceptionTable := #[], attributes := #[] }
def k2m1 : Method := { name := "isUcschar", desc := "(I)Z", sig := { parameters := [.int], returnType := some .boolean }, accessFlags := 8, code := some k2c1 }
/-- com/example/tunnus/tunnus/CharClasses -/
def k2 : Class := { plain "com/example/tunnus/tunnus/CharClasses" (some 0) with
  accessFlags := 48
  interfaces := #[]
  cf := some (fileOf pool2 8 #[] #[{ accessFlags := 2, nameIndex := 5, descriptorIndex := 6, attributes := #[] }, { accessFlags := 8, nameIndex := 29, descriptorIndex := 12, attributes := #[] }] 48 2 #[] #[])
  fields := #[]
  methods := #[k2m0, k2m1]
  instanceTypes := #[]
  staticTypes := #[]
  resolved := Array.replicate 49 none
  statics := none }

def pool3 : Array CpInfo := pool [(1, u "java/lang/Cloneable"), (0, .class_ 1), (0, u "java/lang/Object"), (0, .class_ 3)] 3

/-- java/lang/Cloneable -/
def k3 : Class := { plain "java/lang/Cloneable" (some 0) with
  accessFlags := 1537
  interfaces := #[]
  cf := some (fileOf pool3 2 #[] #[] 1537 4 #[] #[])
  fields := #[]
  methods := #[]
  instanceTypes := #[]
  staticTypes := #[]
  resolved := Array.replicate 8 none
  statics := none }

def pool4 : Array CpInfo := pool [(1, u "java/io/Serializable"), (0, .class_ 1), (0, u "java/lang/Object"), (0, .class_ 3)] 3

/-- java/io/Serializable -/
def k4 : Class := { plain "java/io/Serializable" (some 0) with
  accessFlags := 1537
  interfaces := #[]
  cf := some (fileOf pool4 2 #[] #[] 1537 4 #[] #[])
  fields := #[]
  methods := #[]
  instanceTypes := #[]
  staticTypes := #[]
  resolved := Array.replicate 8 none
  statics := none }

/-- the primitive byte -/
def k5 : Class := { plain "byte" none with kind := .primitive 'B', accessFlags := 0x411 }
/-- [B -/
def k6 : Class := { plain "[B" (some 0) with kind := .array 5 .byte, interfaces := #[3, 4], accessFlags := 1041 }

/-- the primitive int -/
def k7 : Class := { plain "int" none with kind := .primitive 'I', accessFlags := 0x411 }
/-- [I -/
def k8 : Class := { plain "[I" (some 0) with kind := .array 7 .int, interfaces := #[3, 4], accessFlags := 1041 }

def heap : Heap := #[]
def classes : Array Class := #[k0, k1, k2, k3, k4, k5, k6, k7, k8]
def interned : List (Array UInt16 × Addr) := []
def slotsUsed : Nat := 0
def theMethod : MethodId := ⟨1, 3⟩
def args0 : Array Value := #[.int 5, .int 7, .int 9, .int 9, .int 9]
def aboutOver (below : List Frame) : State where
  vm := { classes := classes, interned := interned.toArray }
  heap := heap
  slotsUsed := slotsUsed
  threads := #[{ frames := .invoking theMethod args0 :: below }]
def below0 : List Frame := [.native { method := ⟨0, 0⟩, args := #[] }]
def about1 : State := aboutOver below0
def p0 : Program := .bare "" "" ""
def e0 : Env := launch0.env 0 0 0
theorem w_frames : about1.frames = Frame.invoking theMethod args0 :: below0 := rfl
set_option maxRecDepth 65536 in
theorem w_args : argsFit about1.vm theMethod args0 = true := by decide +kernel
set_option maxRecDepth 65536 in
theorem w_heap : heapFits about1 = true := by decide +kernel
set_option maxRecDepth 65536 in
theorem w_runnable : about1.curStatus? = some .runnable := by decide +kernel
set_option maxRecDepth 65536 in
theorem w_alone : about1.alone = true := by decide +kernel
set_option maxRecDepth 65536 in
theorem w_named : about1.methodNamed? x = some theMethod := by decide +kernel
set_option maxRecDepth 65536 in
theorem w_hears : about1.hears theMethod below0 = true := by decide +kernel
set_option maxRecDepth 65536 in
theorem w_ripe : about1.ripe theMethod args0 below0 = true := by decide +kernel
theorem w_running : about1.status = .running := rfl
set_option maxRecDepth 65536 in
theorem w_room : about1.hasRoom e0.platform room_1 = true :=
  launch0.hasRoom_least _ room_1 (by decide +kernel) (by decide +kernel) (by decide +kernel) (by decide +kernel) (by decide +kernel) (by decide +kernel)
theorem allAtoms_all (ts : List Jvm.Cond) (a : Array Jvm.Value) (st : Jvm.State) : (allAtoms ts).before a st = ts.all (fun c => c.before a st) := by
  induction ts with
  | nil => rfl
  | cons c t ih =>
    show (Jvm.Cond.and c (allAtoms t)).before a st = _
    rw [Jvm.Cond.before_and, ih, List.all_cons]
def words1 : List Jvm.Cond := Jvm.Cond.code x code maxLocals ret :: tables_1
/-- a 'code' word, met by the world's own term for the bytes: nothing is compared byte by byte -/
theorem code_word {y : MethodName} {bytes : ByteArray} {mx : Nat} {rt : Option FieldType} {a : Array Value} {s : State} {m : MethodId} {meth : Method} {c : Code} (h1 : s.methodNamed? y = some m) (h2 : s.vm.method? m = some meth) (h3 : meth.code = some c) (h4 : c.code = bytes)
    (h5 : (c.maxLocals == mx && c.exceptionTable.isEmpty && decide (c.maxStack ≤ mostOperands) && decide (meth.sig.returnType = rt) && !meth.locks && decide (parseMethodDescriptor y.desc = some meth.sig)) = true) : (Jvm.Cond.code y bytes mx rt).before a s = true := by
  simp only [Bool.and_eq_true, beq_iff_eq, Bool.not_eq_true', decide_eq_true_eq] at h5
  obtain ⟨⟨⟨⟨⟨g1, g2⟩, g3⟩, g4⟩, g5⟩, g6⟩ := h5
  simp [Cond.before, Cond.holds, Cond.value, h1, h2, h3, h4, g1, g2, g3, g4, g5, g6]
def isCode : Jvm.Cond → Bool
  | .code _ _ _ _ => true
  | _ => false
theorem all_split {L : List Jvm.Cond} {P : Jvm.Cond → Bool} (h1 : L.all (fun c => isCode c || P c) = true) (h2 : ∀ c ∈ L.filter isCode, P c = true) : L.all P = true := by
  refine List.all_eq_true.mpr fun c hc => ?_
  have h := List.all_eq_true.mp h1 c hc
  rcases Bool.eq_false_or_eq_true (isCode c) with hi | hi
  · exact h2 c (List.mem_filter.mpr ⟨hc, hi⟩)
  · simpa [hi] using h
set_option maxRecDepth 65536 in
theorem w_c0 : (Jvm.Cond.code x code maxLocals ret).before args0 about1 = true := code_word (m := ⟨1, 3⟩) (meth := k1m3) (c := k1c3) (by decide +kernel) rfl rfl rfl (by decide +kernel)
set_option maxRecDepth 65536 in
theorem w_c1 : (Jvm.Cond.code ({ cls := "com/example/tunnus/tunnus/CharClasses", name := "isUcschar", desc := "(I)Z" } : Jvm.MethodName) prog_1_method_10_code (3 : Nat) (Option.some Jvm.ClassFile.FieldType.boolean)).before args0 about1 = true := code_word (m := ⟨2, 1⟩) (meth := k2m1) (c := k2c1) (by decide +kernel) rfl rfl rfl (by decide +kernel)
set_option maxRecDepth 65536 in
theorem w_c2 : (Jvm.Cond.code ({ cls := "com/example/tunnus/tunnus/CharClassesIsUcscharPinLaw", name := "ref", desc := "(I)Z" } : Jvm.MethodName) method_3_code (1 : Nat) (Option.some Jvm.ClassFile.FieldType.boolean)).before args0 about1 = true := code_word (m := ⟨1, 2⟩) (meth := k1m2) (c := k1c2) (by decide +kernel) rfl rfl rfl (by decide +kernel)
set_option maxRecDepth 65536 in
theorem w_c3 : (Jvm.Cond.code ({ cls := "com/example/tunnus/tunnus/CharClassesIsUcscharPinLaw", name := "in", desc := "(III)Z" } : Jvm.MethodName) method_2_code (3 : Nat) (Option.some Jvm.ClassFile.FieldType.boolean)).before args0 about1 = true := code_word (m := ⟨1, 1⟩) (meth := k1m1) (c := k1c1) (by decide +kernel) rfl rfl rfl (by decide +kernel)
def codes1 : List Jvm.Cond := [Jvm.Cond.code x code maxLocals ret, Jvm.Cond.code ({ cls := "com/example/tunnus/tunnus/CharClasses", name := "isUcschar", desc := "(I)Z" } : Jvm.MethodName) prog_1_method_10_code (3 : Nat) (Option.some Jvm.ClassFile.FieldType.boolean), Jvm.Cond.code ({ cls := "com/example/tunnus/tunnus/CharClassesIsUcscharPinLaw", name := "ref", desc := "(I)Z" } : Jvm.MethodName) method_3_code (1 : Nat) (Option.some Jvm.ClassFile.FieldType.boolean), Jvm.Cond.code ({ cls := "com/example/tunnus/tunnus/CharClassesIsUcscharPinLaw", name := "in", desc := "(III)Z" } : Jvm.MethodName) method_2_code (3 : Nat) (Option.some Jvm.ClassFile.FieldType.boolean)]
set_option maxRecDepth 65536 in
theorem codes_eq : words1.filter isCode = codes1 := rfl
theorem w_codes : ∀ c ∈ words1.filter isCode, c.before args0 about1 = true := by
  rw [codes_eq]
  intro c hc
  simp only [codes1, List.mem_cons, List.not_mem_nil, or_false] at hc
  rcases hc with rfl | rfl | rfl | rfl
  · exact w_c0
  · exact w_c1
  · exact w_c2
  · exact w_c3
set_option maxRecDepth 65536 in
theorem w_t1 : (words1.take 24).all (fun c => isCode c || c.before args0 about1) = true := by decide +kernel
set_option maxRecDepth 65536 in
theorem w_t2 : ((words1.drop 24).take 24).all (fun c => isCode c || c.before args0 about1) = true := by decide +kernel
set_option maxRecDepth 65536 in
theorem w_t3 : ((words1.drop 24).drop 24).all (fun c => isCode c || c.before args0 about1) = true := by decide +kernel
theorem w_tables : (allAtoms (Jvm.Cond.code x code maxLocals ret :: tables_1)).before args0 about1 = true := by
  rw [allAtoms_all]
  show words1.all (fun c => c.before args0 about1) = true
  refine all_split ?_ w_codes
  rw [← List.take_append_drop 24 words1, List.all_append, w_t1, ← List.take_append_drop 24 (words1.drop 24), List.all_append, w_t2, w_t3]
  rfl
set_option maxRecDepth 65536 in
theorem w_case : (Jvm.Cond.and given_1 narrow_1).before args0 about1 = true := by decide +kernel
theorem w_applies : (headSpec (Jvm.Cond.code x code maxLocals ret :: tables_1) room_1).applies x e0.platform about1 = true :=
  (Spec.applies_iff w_frames).mpr ⟨w_running, w_runnable, w_alone, w_named, w_hears, w_ripe, w_room, w_tables⟩
theorem atStart : AtStart classFile x code maxLocals ret World_1 tables_1 room_1 Calls_1 rest_1 Pre_1 launch0 p0 e0 about1 theMethod args0 below0 :=
  ⟨lists_1, trivial, launch0.admits_env _ _ _, launch0.least_env, fairChoices_fair.cas, fairChoices_fair.clock, w_frames, w_args, w_heap, w_applies, trivial, trivial, w_case⟩
end start1
theorem witness_1 : WitnessClaimed_1 := ⟨start1.p0, start1.e0, start1.about1, start1.theMethod, start1.args0, start1.below0, start1.atStart⟩
end Jvm.Pilot.@@N@@
