import PyProof.Rows.All
import Wide.All
import KE.KxBytes
import KE.KEqDict
import KE.KxAdd
import KE.KxPercentT
import KE.KSortTup
import KE.KPairComp
import PySem.Challenge.RW_xh0030_01
set_option Elab.async false
set_option linter.unusedVariables false
set_option maxRecDepth 100000
set_option maxHeartbeats 8000000
local macro_rules | `(tactic| fail "e") => `(tactic| repeat fail "ev")
section
open PySem PySem.W PyProof.Rows PySem.Calls
namespace Mine
universe u1 u2 u3 u4 u5 u6 u7 u8 u9 u10
theorem o0_2 {p q : Prop} {g : Prop} (h : p ∧ q) (k : p → q → g) : g := k h.1 h.2
theorem o0_3 {p q r : Prop} {g : Prop} (h : p ∧ q ∧ r) (k : p → q → r → g) : g := o0_2 h fun a h => o0_2 h (k a)
theorem o0_4 {p q r s : Prop} {g : Prop} (h : p ∧ q ∧ r ∧ s) (k : p → q → r → s → g) : g := o0_2 h fun a h => o0_3 h (k a)
theorem o0_5 {p q r s t : Prop} {g : Prop} (h : p ∧ q ∧ r ∧ s ∧ t) (k : p → q → r → s → t → g) : g := o0_2 h fun a h => o0_4 h (k a)
theorem o0_6 {p q r s t u : Prop} {g : Prop} (h : p ∧ q ∧ r ∧ s ∧ t ∧ u) (k : p → q → r → s → t → u → g) : g := o0_2 h fun a h => o0_5 h (k a)
theorem o0_7 {p q r s t u v : Prop} {g : Prop} (h : p ∧ q ∧ r ∧ s ∧ t ∧ u ∧ v) (k : p → q → r → s → t → u → v → g) : g := o0_2 h fun a h => o0_6 h (k a)
theorem o0_8 {p q r s t u v w : Prop} {g : Prop} (h : p ∧ q ∧ r ∧ s ∧ t ∧ u ∧ v ∧ w) (k : p → q → r → s → t → u → v → w → g) : g := o0_2 h fun a h => o0_7 h (k a)
theorem o0_9 {p q r s t u v w x : Prop} {g : Prop} (h : p ∧ q ∧ r ∧ s ∧ t ∧ u ∧ v ∧ w ∧ x) (k : p → q → r → s → t → u → v → w → x → g) : g := o0_2 h fun a h => o0_8 h (k a)
theorem o0_10 {p q r s t u v w x y : Prop} {g : Prop} (h : p ∧ q ∧ r ∧ s ∧ t ∧ u ∧ v ∧ w ∧ x ∧ y) (k : p → q → r → s → t → u → v → w → x → y → g) : g := o0_2 h fun a h => o0_9 h (k a)
theorem o0_11 {p q r s t u v w x y z : Prop} {g : Prop} (h : p ∧ q ∧ r ∧ s ∧ t ∧ u ∧ v ∧ w ∧ x ∧ y ∧ z) (k : p → q → r → s → t → u → v → w → x → y → z → g) : g := o0_2 h fun a h => o0_10 h (k a)
theorem o1_1 {α : Sort u1} {p : α → Prop} {g : Prop} (h : ∃ a, p a) (k : ∀ a, p a → g) : g := h.elim fun a h => k a h
theorem o1_2 {α : Sort u1} {p q : α → Prop} {g : Prop} (h : ∃ a, p a ∧ q a) (k : ∀ a, p a → q a → g) : g := h.elim fun a h => o0_2 h (k a)
theorem o1_3 {α : Sort u1} {p q r : α → Prop} {g : Prop} (h : ∃ a, p a ∧ q a ∧ r a) (k : ∀ a, p a → q a → r a → g) : g := h.elim fun a h => o0_3 h (k a)
theorem o1_4 {α : Sort u1} {p q r s : α → Prop} {g : Prop} (h : ∃ a, p a ∧ q a ∧ r a ∧ s a) (k : ∀ a, p a → q a → r a → s a → g) : g := h.elim fun a h => o0_4 h (k a)
theorem o1_5 {α : Sort u1} {p q r s t : α → Prop} {g : Prop} (h : ∃ a, p a ∧ q a ∧ r a ∧ s a ∧ t a) (k : ∀ a, p a → q a → r a → s a → t a → g) : g := h.elim fun a h => o0_5 h (k a)
theorem o2_1 {α : Sort u1} {β : Sort u2} {p : α → β → Prop} {g : Prop} (h : ∃ a b, p a b) (k : ∀ a b, p a b → g) : g := h.elim fun a h => o1_1 h (k a)
theorem o2_2 {α : Sort u1} {β : Sort u2} {p q : α → β → Prop} {g : Prop} (h : ∃ a b, p a b ∧ q a b) (k : ∀ a b, p a b → q a b → g) : g := h.elim fun a h => o1_2 h (k a)
theorem o2_3 {α : Sort u1} {β : Sort u2} {p q r : α → β → Prop} {g : Prop} (h : ∃ a b, p a b ∧ q a b ∧ r a b) (k : ∀ a b, p a b → q a b → r a b → g) : g := h.elim fun a h => o1_3 h (k a)
theorem o2_4 {α : Sort u1} {β : Sort u2} {p q r s : α → β → Prop} {g : Prop} (h : ∃ a b, p a b ∧ q a b ∧ r a b ∧ s a b) (k : ∀ a b, p a b → q a b → r a b → s a b → g) : g := h.elim fun a h => o1_4 h (k a)
theorem o2_5 {α : Sort u1} {β : Sort u2} {p q r s t : α → β → Prop} {g : Prop} (h : ∃ a b, p a b ∧ q a b ∧ r a b ∧ s a b ∧ t a b) (k : ∀ a b, p a b → q a b → r a b → s a b → t a b → g) : g := h.elim fun a h => o1_5 h (k a)
theorem o3_1 {α : Sort u1} {β : Sort u2} {γ : Sort u3} {p : α → β → γ → Prop} {g : Prop} (h : ∃ a b c, p a b c) (k : ∀ a b c, p a b c → g) : g := h.elim fun a h => o2_1 h (k a)
theorem o3_2 {α : Sort u1} {β : Sort u2} {γ : Sort u3} {p q : α → β → γ → Prop} {g : Prop} (h : ∃ a b c, p a b c ∧ q a b c) (k : ∀ a b c, p a b c → q a b c → g) : g := h.elim fun a h => o2_2 h (k a)
theorem o3_3 {α : Sort u1} {β : Sort u2} {γ : Sort u3} {p q r : α → β → γ → Prop} {g : Prop} (h : ∃ a b c, p a b c ∧ q a b c ∧ r a b c) (k : ∀ a b c, p a b c → q a b c → r a b c → g) : g := h.elim fun a h => o2_3 h (k a)
theorem o3_4 {α : Sort u1} {β : Sort u2} {γ : Sort u3} {p q r s : α → β → γ → Prop} {g : Prop} (h : ∃ a b c, p a b c ∧ q a b c ∧ r a b c ∧ s a b c) (k : ∀ a b c, p a b c → q a b c → r a b c → s a b c → g) : g := h.elim fun a h => o2_4 h (k a)
theorem o3_5 {α : Sort u1} {β : Sort u2} {γ : Sort u3} {p q r s t : α → β → γ → Prop} {g : Prop} (h : ∃ a b c, p a b c ∧ q a b c ∧ r a b c ∧ s a b c ∧ t a b c) (k : ∀ a b c, p a b c → q a b c → r a b c → s a b c → t a b c → g) : g := h.elim fun a h => o2_5 h (k a)
theorem o3_6 {α : Sort u1} {β : Sort u2} {γ : Sort u3} {p q r s t u : α → β → γ → Prop} {g : Prop} (h : ∃ a b c, p a b c ∧ q a b c ∧ r a b c ∧ s a b c ∧ t a b c ∧ u a b c) (k : ∀ a b c, p a b c → q a b c → r a b c → s a b c → t a b c → u a b c → g) : g := h.elim fun a h => h.elim fun b h => h.elim fun c h => o0_6 h (k a b c)
theorem o4_1 {α : Sort u1} {β : Sort u2} {γ : Sort u3} {δ : Sort u4} {p : α → β → γ → δ → Prop} {g : Prop} (h : ∃ a b c d, p a b c d) (k : ∀ a b c d, p a b c d → g) : g := h.elim fun a h => o3_1 h (k a)
theorem o4_2 {α : Sort u1} {β : Sort u2} {γ : Sort u3} {δ : Sort u4} {p q : α → β → γ → δ → Prop} {g : Prop} (h : ∃ a b c d, p a b c d ∧ q a b c d) (k : ∀ a b c d, p a b c d → q a b c d → g) : g := h.elim fun a h => o3_2 h (k a)
theorem o4_3 {α : Sort u1} {β : Sort u2} {γ : Sort u3} {δ : Sort u4} {p q r : α → β → γ → δ → Prop} {g : Prop} (h : ∃ a b c d, p a b c d ∧ q a b c d ∧ r a b c d) (k : ∀ a b c d, p a b c d → q a b c d → r a b c d → g) : g := h.elim fun a h => o3_3 h (k a)
theorem o4_5 {α : Sort u1} {β : Sort u2} {γ : Sort u3} {δ : Sort u4} {p q r s t : α → β → γ → δ → Prop} {g : Prop} (h : ∃ a b c d, p a b c d ∧ q a b c d ∧ r a b c d ∧ s a b c d ∧ t a b c d) (k : ∀ a b c d, p a b c d → q a b c d → r a b c d → s a b c d → t a b c d → g) : g := h.elim fun a h => o3_5 h (k a)
theorem o4_7 {α : Sort u1} {β : Sort u2} {γ : Sort u3} {δ : Sort u4} {p q r s t u v : α → β → γ → δ → Prop} {g : Prop} (h : ∃ a b c d, p a b c d ∧ q a b c d ∧ r a b c d ∧ s a b c d ∧ t a b c d ∧ u a b c d ∧ v a b c d) (k : ∀ a b c d, p a b c d → q a b c d → r a b c d → s a b c d → t a b c d → u a b c d → v a b c d → g) : g := h.elim fun a h => h.elim fun b h => h.elim fun c h => h.elim fun d h => o0_7 h (k a b c d)
theorem o5_1 {α : Sort u1} {β : Sort u2} {γ : Sort u3} {δ : Sort u4} {ε : Sort u5} {p : α → β → γ → δ → ε → Prop} {g : Prop} (h : ∃ a b c d e, p a b c d e) (k : ∀ a b c d e, p a b c d e → g) : g := h.elim fun a h => o4_1 h (k a)
theorem o5_4 {α : Sort u1} {β : Sort u2} {γ : Sort u3} {δ : Sort u4} {ε : Sort u5} {p q r s : α → β → γ → δ → ε → Prop} {g : Prop} (h : ∃ a b c d e, p a b c d e ∧ q a b c d e ∧ r a b c d e ∧ s a b c d e) (k : ∀ a b c d e, p a b c d e → q a b c d e → r a b c d e → s a b c d e → g) : g := h.elim fun a h => h.elim fun b h => o3_4 h (k a b)
theorem o5_6 {α : Sort u1} {β : Sort u2} {γ : Sort u3} {δ : Sort u4} {ε : Sort u5} {p q r s t u : α → β → γ → δ → ε → Prop} {g : Prop} (h : ∃ a b c d e, p a b c d e ∧ q a b c d e ∧ r a b c d e ∧ s a b c d e ∧ t a b c d e ∧ u a b c d e) (k : ∀ a b c d e, p a b c d e → q a b c d e → r a b c d e → s a b c d e → t a b c d e → u a b c d e → g) : g := h.elim fun a h => h.elim fun b h => o3_6 h (k a b)
theorem o6_10 {α : Sort u1} {β : Sort u2} {γ : Sort u3} {δ : Sort u4} {ε : Sort u5} {ζ : Sort u6} {p q r s t u v w x y : α → β → γ → δ → ε → ζ → Prop} {g : Prop} (h : ∃ a b c d e f, p a b c d e f ∧ q a b c d e f ∧ r a b c d e f ∧ s a b c d e f ∧ t a b c d e f ∧ u a b c d e f ∧ v a b c d e f ∧ w a b c d e f ∧ x a b c d e f ∧ y a b c d e f) (k : ∀ a b c d e f, p a b c d e f → q a b c d e f → r a b c d e f → s a b c d e f → t a b c d e f → u a b c d e f → v a b c d e f → w a b c d e f → x a b c d e f → y a b c d e f → g) : g := h.elim fun a h => h.elim fun b h => h.elim fun c h => h.elim fun d h => h.elim fun e h => h.elim fun f h => o0_10 h (k a b c d e f)
theorem o10_11 {α : Sort u1} {β : Sort u2} {γ : Sort u3} {δ : Sort u4} {ε : Sort u5} {ζ : Sort u6} {η : Sort u7} {θ : Sort u8} {ι : Sort u9} {κ : Sort u10} {p q r s t u v w x y z : α → β → γ → δ → ε → ζ → η → θ → ι → κ → Prop} {g : Prop} (h : ∃ a b c d e f i j l m, p a b c d e f i j l m ∧ q a b c d e f i j l m ∧ r a b c d e f i j l m ∧ s a b c d e f i j l m ∧ t a b c d e f i j l m ∧ u a b c d e f i j l m ∧ v a b c d e f i j l m ∧ w a b c d e f i j l m ∧ x a b c d e f i j l m ∧ y a b c d e f i j l m ∧ z a b c d e f i j l m) (k : ∀ a b c d e f i j l m, p a b c d e f i j l m → q a b c d e f i j l m → r a b c d e f i j l m → s a b c d e f i j l m → t a b c d e f i j l m → u a b c d e f i j l m → v a b c d e f i j l m → w a b c d e f i j l m → x a b c d e f i j l m → y a b c d e f i j l m → z a b c d e f i j l m → g) : g := h.elim fun a h => h.elim fun b h => h.elim fun c h => h.elim fun d h => h.elim fun e h => h.elim fun f h => h.elim fun i h => h.elim fun j h => h.elim fun l h => h.elim fun m h => o0_11 h (k a b c d e f i j l m)
theorem i1_2 {α : Sort u1} {p q : α → Prop} (a : α) (h1 : p a) (h2 : q a) : ∃ a, p a ∧ q a := ⟨a, h1, h2⟩
theorem i1_3 {α : Sort u1} {p q r : α → Prop} (a : α) (h1 : p a) (h2 : q a) (h3 : r a) : ∃ a, p a ∧ q a ∧ r a := ⟨a, h1, h2, h3⟩
theorem i1_4 {α : Sort u1} {p q r s : α → Prop} (a : α) (h1 : p a) (h2 : q a) (h3 : r a) (h4 : s a) : ∃ a, p a ∧ q a ∧ r a ∧ s a := ⟨a, h1, h2, h3, h4⟩
theorem i1_5 {α : Sort u1} {p q r s t : α → Prop} (a : α) (h1 : p a) (h2 : q a) (h3 : r a) (h4 : s a) (h5 : t a) : ∃ a, p a ∧ q a ∧ r a ∧ s a ∧ t a := ⟨a, h1, h2, h3, h4, h5⟩
theorem i2_1 {α : Sort u1} {β : Sort u2} {p : α → β → Prop} (a : α) (b : β) (h1 : p a b) : ∃ a b, p a b := ⟨a, b, h1⟩
theorem i2_2 {α : Sort u1} {β : Sort u2} {p q : α → β → Prop} (a : α) (b : β) (h1 : p a b) (h2 : q a b) : ∃ a b, p a b ∧ q a b := ⟨a, b, h1, h2⟩
theorem i2_3 {α : Sort u1} {β : Sort u2} {p q r : α → β → Prop} (a : α) (b : β) (h1 : p a b) (h2 : q a b) (h3 : r a b) : ∃ a b, p a b ∧ q a b ∧ r a b := ⟨a, b, h1, h2, h3⟩
theorem i2_4 {α : Sort u1} {β : Sort u2} {p q r s : α → β → Prop} (a : α) (b : β) (h1 : p a b) (h2 : q a b) (h3 : r a b) (h4 : s a b) : ∃ a b, p a b ∧ q a b ∧ r a b ∧ s a b := ⟨a, b, h1, h2, h3, h4⟩
theorem i2_5 {α : Sort u1} {β : Sort u2} {p q r s t : α → β → Prop} (a : α) (b : β) (h1 : p a b) (h2 : q a b) (h3 : r a b) (h4 : s a b) (h5 : t a b) : ∃ a b, p a b ∧ q a b ∧ r a b ∧ s a b ∧ t a b := ⟨a, b, h1, h2, h3, h4, h5⟩
theorem i3_1 {α : Sort u1} {β : Sort u2} {γ : Sort u3} {p : α → β → γ → Prop} (a : α) (b : β) (c : γ) (h1 : p a b c) : ∃ a b c, p a b c := ⟨a, b, c, h1⟩
theorem i3_3 {α : Sort u1} {β : Sort u2} {γ : Sort u3} {p q r : α → β → γ → Prop} (a : α) (b : β) (c : γ) (h1 : p a b c) (h2 : q a b c) (h3 : r a b c) : ∃ a b c, p a b c ∧ q a b c ∧ r a b c := ⟨a, b, c, h1, h2, h3⟩
theorem i3_4 {α : Sort u1} {β : Sort u2} {γ : Sort u3} {p q r s : α → β → γ → Prop} (a : α) (b : β) (c : γ) (h1 : p a b c) (h2 : q a b c) (h3 : r a b c) (h4 : s a b c) : ∃ a b c, p a b c ∧ q a b c ∧ r a b c ∧ s a b c := ⟨a, b, c, h1, h2, h3, h4⟩
theorem i3_5 {α : Sort u1} {β : Sort u2} {γ : Sort u3} {p q r s t : α → β → γ → Prop} (a : α) (b : β) (c : γ) (h1 : p a b c) (h2 : q a b c) (h3 : r a b c) (h4 : s a b c) (h5 : t a b c) : ∃ a b c, p a b c ∧ q a b c ∧ r a b c ∧ s a b c ∧ t a b c := ⟨a, b, c, h1, h2, h3, h4, h5⟩
theorem i3_6 {α : Sort u1} {β : Sort u2} {γ : Sort u3} {p q r s t u : α → β → γ → Prop} (a : α) (b : β) (c : γ) (h1 : p a b c) (h2 : q a b c) (h3 : r a b c) (h4 : s a b c) (h5 : t a b c) (h6 : u a b c) : ∃ a b c, p a b c ∧ q a b c ∧ r a b c ∧ s a b c ∧ t a b c ∧ u a b c := ⟨a, b, c, h1, h2, h3, h4, h5, h6⟩
theorem i4_1 {α : Sort u1} {β : Sort u2} {γ : Sort u3} {δ : Sort u4} {p : α → β → γ → δ → Prop} (a : α) (b : β) (c : γ) (d : δ) (h1 : p a b c d) : ∃ a b c d, p a b c d := ⟨a, b, c, d, h1⟩
theorem i4_3 {α : Sort u1} {β : Sort u2} {γ : Sort u3} {δ : Sort u4} {p q r : α → β → γ → δ → Prop} (a : α) (b : β) (c : γ) (d : δ) (h1 : p a b c d) (h2 : q a b c d) (h3 : r a b c d) : ∃ a b c d, p a b c d ∧ q a b c d ∧ r a b c d := ⟨a, b, c, d, h1, h2, h3⟩
theorem i4_5 {α : Sort u1} {β : Sort u2} {γ : Sort u3} {δ : Sort u4} {p q r s t : α → β → γ → δ → Prop} (a : α) (b : β) (c : γ) (d : δ) (h1 : p a b c d) (h2 : q a b c d) (h3 : r a b c d) (h4 : s a b c d) (h5 : t a b c d) : ∃ a b c d, p a b c d ∧ q a b c d ∧ r a b c d ∧ s a b c d ∧ t a b c d := ⟨a, b, c, d, h1, h2, h3, h4, h5⟩
theorem i4_7 {α : Sort u1} {β : Sort u2} {γ : Sort u3} {δ : Sort u4} {p q r s t u v : α → β → γ → δ → Prop} (a : α) (b : β) (c : γ) (d : δ) (h1 : p a b c d) (h2 : q a b c d) (h3 : r a b c d) (h4 : s a b c d) (h5 : t a b c d) (h6 : u a b c d) (h7 : v a b c d) : ∃ a b c d, p a b c d ∧ q a b c d ∧ r a b c d ∧ s a b c d ∧ t a b c d ∧ u a b c d ∧ v a b c d := ⟨a, b, c, d, h1, h2, h3, h4, h5, h6, h7⟩
theorem i5_1 {α : Sort u1} {β : Sort u2} {γ : Sort u3} {δ : Sort u4} {ε : Sort u5} {p : α → β → γ → δ → ε → Prop} (a : α) (b : β) (c : γ) (d : δ) (e : ε) (h1 : p a b c d e) : ∃ a b c d e, p a b c d e := ⟨a, b, c, d, e, h1⟩
theorem i5_4 {α : Sort u1} {β : Sort u2} {γ : Sort u3} {δ : Sort u4} {ε : Sort u5} {p q r s : α → β → γ → δ → ε → Prop} (a : α) (b : β) (c : γ) (d : δ) (e : ε) (h1 : p a b c d e) (h2 : q a b c d e) (h3 : r a b c d e) (h4 : s a b c d e) : ∃ a b c d e, p a b c d e ∧ q a b c d e ∧ r a b c d e ∧ s a b c d e := ⟨a, b, c, d, e, h1, h2, h3, h4⟩
theorem i6_10 {α : Sort u1} {β : Sort u2} {γ : Sort u3} {δ : Sort u4} {ε : Sort u5} {ζ : Sort u6} {p q r s t u v w x y : α → β → γ → δ → ε → ζ → Prop} (a : α) (b : β) (c : γ) (d : δ) (e : ε) (f : ζ) (h1 : p a b c d e f) (h2 : q a b c d e f) (h3 : r a b c d e f) (h4 : s a b c d e f) (h5 : t a b c d e f) (h6 : u a b c d e f) (h7 : v a b c d e f) (h8 : w a b c d e f) (h9 : x a b c d e f) (h10 : y a b c d e f) : ∃ a b c d e f, p a b c d e f ∧ q a b c d e f ∧ r a b c d e f ∧ s a b c d e f ∧ t a b c d e f ∧ u a b c d e f ∧ v a b c d e f ∧ w a b c d e f ∧ x a b c d e f ∧ y a b c d e f := ⟨a, b, c, d, e, f, h1, h2, h3, h4, h5, h6, h7, h8, h9, h10⟩
theorem i9_9 {α : Sort u1} {β : Sort u2} {γ : Sort u3} {δ : Sort u4} {ε : Sort u5} {ζ : Sort u6} {η : Sort u7} {θ : Sort u8} {ι : Sort u9} {p q r s t u v w x : α → β → γ → δ → ε → ζ → η → θ → ι → Prop} (a : α) (b : β) (c : γ) (d : δ) (e : ε) (f : ζ) (i : η) (j : θ) (l : ι) (h1 : p a b c d e f i j l) (h2 : q a b c d e f i j l) (h3 : r a b c d e f i j l) (h4 : s a b c d e f i j l) (h5 : t a b c d e f i j l) (h6 : u a b c d e f i j l) (h7 : v a b c d e f i j l) (h8 : w a b c d e f i j l) (h9 : x a b c d e f i j l) : ∃ a b c d e f i j l, p a b c d e f i j l ∧ q a b c d e f i j l ∧ r a b c d e f i j l ∧ s a b c d e f i j l ∧ t a b c d e f i j l ∧ u a b c d e f i j l ∧ v a b c d e f i j l ∧ w a b c d e f i j l ∧ x a b c d e f i j l := ⟨a, b, c, d, e, f, i, j, l, h1, h2, h3, h4, h5, h6, h7, h8, h9⟩
end Mine
namespace Mine.Om
theorem ltEq {n m k : Nat} (h : k = m) (h2 : n < m) : n < k := h ▸ h2
theorem leEq {n m k : Nat} (h : k = m) (h2 : n ≤ m) : n ≤ k := h ▸ h2
theorem eqLt {n m k : Nat} (h : k = m) (h2 : m < n) : k < n := h ▸ h2
theorem eqLe {n m k : Nat} (h : k = m) (h2 : m ≤ n) : k ≤ n := h ▸ h2
theorem castLt {x K : Nat} {Z : Int} (h : x < K) (k : (K : Int) ≤ Z) : (x : Int) < Z := Int.lt_of_lt_of_le (Int.ofNat_lt.mpr h) k
theorem castLt' {x K : Nat} {Z : Int} (h : x ≤ K) (k : (K : Int) < Z) : (x : Int) < Z := Int.lt_of_le_of_lt (Int.ofNat_le.mpr h) k
theorem castLe' {x K : Nat} {Z : Int} (h : x < K) (k : (K : Int) ≤ Z) : (x : Int) ≤ Z := Int.le_of_lt (castLt h k)
theorem negLe {x : Nat} {Z : Int} (k : Z ≤ 0) : Z ≤ (x : Int) := Int.le_trans k (Int.natCast_nonneg x)
theorem succLt {x K : Nat} {Z : Int} (h : x < K) (k : ((K + 1 : Nat) : Int) ≤ Z) : ((x + 1 : Nat) : Int) < Z := castLt (Nat.succ_lt_succ h) k
theorem ltEqLe {i n m k : Nat} (h : i < n) (e : n = m) (d : m ≤ k) : i < k := Nat.lt_of_lt_of_le h (e ▸ d)
theorem ltEqLe' {i n m k L : Nat} (h : i < n) (e : n = m) (e2 : L = k) (d : m ≤ k) : i < L := e2 ▸ Nat.lt_of_lt_of_le h (e ▸ d)
theorem ltLe2 {i m k L : Nat} (h : i < m) (e2 : L = k) (d : m ≤ k) : i < L := e2 ▸ Nat.lt_of_lt_of_le h d
theorem castLtEq {i n m : Nat} {Z : Int} (h : i < n) (e : n = m) (d : (m : Int) ≤ Z) : (i : Int) < Z := castLt (e ▸ h) d
theorem mod3 (k : Nat) : k % 3 = 0 ∨ k % 3 = 1 ∨ k % 3 = 2 :=
 match k % 3, Nat.mod_lt k (by decide : 3 > 0) with
 | 0, _ => .inl rfl | 1, _ => .inr (.inl rfl) | 2, _ => .inr (.inr rfl) | n + 3, h => absurd h (Nat.not_lt_of_le (Nat.le_add_left 3 n))
theorem subLt {n i : Nat} (h : i < n) : n - (i + 1) < n - i := Nat.sub_succ_lt_self _ _ h
theorem ltMin {j k n : Nat} (h : j < min k n) : j < k := Nat.lt_of_lt_of_le h (Nat.min_le_left _ _)
theorem ltMin' {j k n : Nat} (h : j < min k n) : j < n := Nat.lt_of_lt_of_le h (Nat.min_le_right _ _)
theorem minNe {j k n : Nat} (h : j < min k n) (e : j = k) : False := Nat.ne_of_lt (ltMin h) e
theorem succEq {C D : Nat} (h : C = D + 1) : D ≤ C := h ▸ Nat.le_succ D
theorem succNe {C D : Nat} (h : C = D + 1) : D ≠ C := h ▸ Nat.ne_of_lt (Nat.lt_succ_self D)
theorem succF {C D : Nat} (h : C = D + 1) (k : C < D) : False := Nat.not_le_of_gt k (succEq h)
theorem succLe3 {C D c : Nat} (h : C = D + 1) (b : C + 1 ≤ c) : D ≤ c := Nat.le_trans (succEq h) (Nat.le_of_succ_le b)
theorem ngLt {a b : Nat} (h : b < a) : -1 * (a : Int) < -1 * (b : Int) := by omega
theorem ngLtN {a b : Nat} (h : a < b) : ¬-1 * (a : Int) < -1 * (b : Int) := by omega
theorem ngNe {a b : Nat} (h : a < b) : ¬-1 * (a : Int) = -1 * (b : Int) := by omega
theorem ngNe' {a b : Nat} (h : b < a) : ¬-1 * (a : Int) = -1 * (b : Int) := by omega
theorem psLt {a b : Nat} (h : a < b) : 1 * (a : Int) < 1 * (b : Int) := by omega
theorem psLtN {a b : Nat} (h : b < a) : ¬1 * (a : Int) < 1 * (b : Int) := by omega
theorem psNe {a b : Nat} (h : a < b) : ¬1 * (a : Int) = 1 * (b : Int) := by omega
theorem psNe' {a b : Nat} (h : b < a) : ¬1 * (a : Int) = 1 * (b : Int) := by omega
theorem h40l {x : Nat} : -20 ≤ (x : Int) - 20 := by omega
theorem h40u {x : Nat} (h : x < 40) : (x : Int) - 20 ≤ 19 := by omega
theorem h40n {x : Nat} (h : x < 40) : ((x : Int) - 20).natAbs < 1920 := by omega
theorem bnd6 {i j p : Nat} (h : p ≤ 7 * i) (hi : i < 6) (hj : j < 6) : p + j ≤ 64 := by omega
theorem bnd6' {i j p : Nat} (h : p ≤ 7 * i) (hi : i < 6) (hj : j < i + 1) : p + j ≤ 64 := by omega
theorem bnd13 {L i n l j : Nat} (h : L ≤ 6 * i + j) (hn : n = 6) (hi : i < n) (hl : l ≤ 5) (hj : j < l + 1) : L ≤ 64 := by omega
theorem bnd15 {L k m : Nat} (h : L ≤ 1 + 4 * k + m) (hk : k < 6) (hm : m < 4) : L ≤ 64 := by omega
theorem addSub' {p d a : Nat} (h : p + (d + 1) = a) : a - p = a - (p + 1) + 1 := by have e : p + (d + 1) = p + 1 + d := (Nat.add_right_comm p 1 d).symm; rw [← h, Nat.add_sub_cancel_left, e, Nat.add_sub_cancel_left]
theorem addL1 {p d a : Nat} (h : p + (d + 1) = a) : p + 1 + d = a := (Nat.add_right_comm p 1 d).trans h
theorem addL2 {p d a : Nat} (h : p + (d + 1) = a) : p < a := h ▸ Nat.lt_add_of_pos_right (Nat.succ_pos d)
theorem addL3 {p d a n : Nat} (h : p + (d + 1) = a) (k : a ≤ n) : p < n := Nat.lt_of_lt_of_le (addL2 h) k
theorem dpt {a n k : Nat} (h : a + 20 * (n + 1) ≤ 9000) (d : k ≤ 20) : a + k + 20 * n ≤ 9000 := by omega
theorem succF' {C D c : Nat} (h : C = D + 1) (b : C + 1 ≤ c) (k : c < D) : False := succF h (Nat.lt_trans b k)
theorem dn0 {m k n : Nat} (hm : m + k = n) (h : k < n) : 0 < m := Nat.pos_of_ne_zero fun e => Nat.ne_of_lt h (by rw [← hm, e, Nat.zero_add])
theorem dn1 {m k n : Nat} (hm : m + k = n) (h : k < n) : m - 1 < m := Nat.sub_lt (dn0 hm h) Nat.one_pos
theorem dn2 {m k n : Nat} (hm : m + k = n) (h : k < n) : m - 1 + (k + 1) = n := by rw [Nat.add_comm k 1, ← Nat.add_assoc, Nat.sub_add_cancel (dn0 hm h)]; exact hm
end Mine.Om
namespace Mine
section
variable {tb : String → Option Builtin} {p : Program} {w : World}
def impT (tb : String → Option Builtin) (p : Program) (w : World) : Nat → SharedT → Thread → Option SharedT
 | 0, _, _ => none
 | n + 1, s, t => match t.atExitBegin with
  | some [] => some s
  | some (_ :: _) => none
  | none => match stepT (denote tb) p w s t with
   | some (s', t') => impT tb p w n s' t'
   | none => none
theorem impT_of : ∀ {n : Nat} {s s' : SharedT} {t : Thread}, impT tb p w n s t = some s' → importEnds tb p w n s.abs t = some s'.abs
 | 0, _, _, _, h => by cases h
 | n + 1, s, s', t, h => by
  unfold impT at h
  unfold importEnds
  cases he : t.atExitBegin with
  | some l =>
   rw [he] at h
   cases l with
   | nil => cases h; rfl
   | cons a b => cases h
  | none =>
   rw [he] at h
   cases hs : stepT (denote tb) p w s t with
   | none => rw [hs] at h; cases h
   | some r => obtain ⟨s₂, t₂⟩ := r; rw [hs] at h; dsimp only; rw [stepT_spec hs]; exact impT_of h
def topT (tb : String → Option Builtin) (p : Program) (w : World) (n₀ : Nat) (ann : Option Value) : Nat → SharedT → Thread → Option SharedT
 | 0, _, _ => none
 | n + 1, s, t => match through t with
  | true => some s
  | false => match stepOk n₀ ann t with
   | false => none
   | true => match stepT (denote tb) p w s t with
    | some (s', t') => topT tb p w n₀ ann n s' t'
    | none => none
theorem topT_of {n₀ : Nat} {ann : Option Value} : ∀ {n : Nat} {s s' : SharedT} {t : Thread}, topT tb p w n₀ ann n s t = some s' → topRun tb p w n₀ ann n s.abs t = some s'.abs
 | 0, _, _, _, h => by cases h
 | n + 1, s, s', t, h => by
  unfold topT at h
  unfold topRun
  cases he : through t with
  | true => rw [he] at h; cases h; rfl
  | false =>
   rw [he] at h
   cases hk : stepOk n₀ ann t with
   | false => rw [hk] at h; cases h
   | true =>
    rw [hk] at h
    cases hs : stepT (denote tb) p w s t with
    | none => rw [hs] at h; cases h
    | some r => obtain ⟨s₂, t₂⟩ := r; rw [hs] at h; dsimp only; rw [stepT_spec hs]; exact topT_of h
def treeOf : List Obj → Nat → BT → Option BT
 | [], _, t => some t
 | o :: r, n, t => match ((t.ins n o).get n).isSome with
  | true => treeOf r (n + 1) (t.ins n o)
  | false => none
theorem treeOf_abs {life : Life} : ∀ {l : List Obj} {n : Nat} {t t' : BT}, treeOf l n t = some t' → absHeap t' (n + l.length) life = l.foldl Heap.push (absHeap t n life)
 | [], n, t, t', h => by cases h; rfl
 | o :: r, n, t, t', h => by
  unfold treeOf at h
  cases e : ((t.ins n o).get n).isSome with
  | false => rw [e] at h; cases h
  | true =>
   rw [e] at h
   have := treeOf_abs (life := life) h
   rw [List.foldl_cons, ← absHeap_ins e, ← this, List.length_cons, Nat.add_right_comm, Nat.add_assoc]
theorem foldl_push {life : Life} : ∀ (l : List Obj) (a : Array Obj), l.foldl Heap.push ⟨a, life⟩ = ⟨a ++ l.toArray, life⟩
 | [], a => by simp
 | o :: r, a => by
  rw [List.foldl_cons]
  show r.foldl Heap.push ⟨a.push o, life⟩ = _
  rw [foldl_push r]
  congr 1
  simp
def sharedT (s : Shared) : Option SharedT := (treeOf s.heap.objs.toList 0 .nil).map fun t => ⟨t, s.heap.objs.toList.length, s.heap.life, s.gens, s.drawn, s.toks, s.os⟩
theorem sharedT_abs {s : Shared} {x : SharedT} (h : sharedT s = some x) : x.abs = s := by
 unfold sharedT at h
 cases e : treeOf s.heap.objs.toList 0 .nil with
 | none => rw [e] at h; cases h
 | some t =>
  rw [e] at h
  cases h
  have := treeOf_abs (life := s.heap.life) e
  rw [Nat.zero_add, show absHeap BT.nil 0 s.heap.life = ⟨#[], s.heap.life⟩ from rfl, foldl_push] at this
  show (⟨absHeap t s.heap.objs.toList.length s.heap.life, s.gens, s.drawn, s.toks, s.os⟩ : Shared) = s
  rw [this]
  obtain ⟨⟨a, l⟩, g, d, k, o⟩ := s
  simp
def openT (tb : String → Option Builtin) (p : Program) (w : World) (N : Nat) : Option Shared :=
 ((impT tb (opening p) w N ⟨.nil, 0, (start (opening p)).1.heap.life, (start (opening p)).1.gens, (start (opening p)).1.drawn, (start (opening p)).1.toks, (start (opening p)).1.os⟩ (start (opening p)).2).bind fun s => fenceModules? p s.abs).bind fun s₀ =>
  match s₀.heap.isNs mainGlobals && s₀.gens.size == 0 with
  | true => ((sharedT s₀).bind fun x => topT tb p w s₀.heap.objs.size (s₀.heap.nsMap mainGlobals "__annotations__") N x (topStub p)).bind fun x =>
   match staticsOk (importedModules p.main.body) s₀.heap x.abs.heap && namesBound p x.abs.heap && gensDone x.abs && laidKept s₀.heap x.abs.heap with
   | true => some x.abs
   | false => none
  | false => none
theorem openT_of {N : Nat} {s : Shared} (h : openT tb p w N = some s) : openEnds tb p w N = some s := by
 unfold openT at h
 refine o1_2 (Option.bind_eq_some_iff.mp h) fun s₀ h1 h2 => ?_
 refine o1_2 (Option.bind_eq_some_iff.mp h1) fun x h3 h4 => ?_
 have e1 := impT_of h3
 have e0 : (SharedT.mk .nil 0 (start (opening p)).1.heap.life (start (opening p)).1.gens (start (opening p)).1.drawn (start (opening p)).1.toks (start (opening p)).1.os).abs = (start (opening p)).1 := rfl
 rw [e0] at e1
 unfold openEnds fencedOpening
 rw [e1]
 show (fenceModules? p x.abs).bind _ = _
 rw [h4]
 show topFrom tb p w N s₀ = some s
 unfold topFrom
 cases hk : (s₀.heap.isNs mainGlobals && s₀.gens.size == 0) with
 | false => rw [hk] at h2; cases h2
 | true =>
  rw [hk] at h2
  refine o1_2 (Option.bind_eq_some_iff.mp h2) fun y h5 h6 => ?_
  refine o1_2 (Option.bind_eq_some_iff.mp h5) fun z h7 h8 => ?_
  have e2 := topT_of h8
  rw [sharedT_abs h7] at e2
  dsimp only
  rw [e2]
  exact h6
end
theorem leftO_of {p q : Program} {loose : List Str} {Xt : Shared → Bool} {α : Type} {Yf : Shared → α} {Ya : World → α} {N : Nat} {g0 : Bool}
  (h : ∀ w, (openT treeTable p w N).map (fun s => (Yf s, openSeen q loose (importedModules p.main.body) Xt g0 s)) = some (Ya w, openGood q loose)) : LeftO p q loose Xt Yf Ya N g0 := fun w => by
 refine o1_2 (Option.map_eq_some_iff.mp (h w)) fun s a b => ?_
 rw [openT_of a]
 show some (_, Yf s) = _
 rw [show openSeen q loose (importedModules p.main.body) Xt g0 s = openGood q loose from congrArg Prod.snd b, show Yf s = Ya w from congrArg Prod.fst b]
end Mine
end
section
open PySem PySem.W PyProof.Rows PySem.Calls
namespace Mine
def fnB : Stmt → List Stmt
 | .FunctionDef (body := b) .. => b
 | _ => []
def fnS : Stmt → Scope
 | .FunctionDef (scope := s) .. => s
 | _ => default
def fnA : Stmt → Arguments
 | .FunctionDef (args := s) .. => s
 | _ => default
def clB : Stmt → List Stmt
 | .ClassDef (body := b) .. => b
 | _ => []
def top (i : Nat) : Stmt := PySem.Challenge.pw_xh0030_01.main.body.getD i (.Pass ⟨0, 0, 0, 0⟩)
def top2 (i j : Nat) : Stmt := (clB (top i)).getD j (.Pass ⟨0, 0, 0, 0⟩)
def eK (P : Params) (s : String) (t : Nat) (v : Value) : DictEntry := { hash := PyData.keyHash P (Str.ofString s), key := .str (Str.ofString s) t, val := v }
noncomputable def KK (P : Params) : Frag := [
 (3, { cls := .type "dict", data := .dict #[eK P "__name__" 165 (.str (Str.ofString "law_xh0030_01") 616), eK P "__doc__" 166 .none, eK P "__package__" 167 .none, eK P "__loader__" 168 (.builtin "__main__.__loader__#opaque"), eK P "__spec__" 169 .none, eK P "__annotations__" 170 (.ref 6), eK P "__builtins__" 171 (.ref 4), eK P "__file__" 173 (.str (Str.ofString "/claim/cut.py") 172), eK P "__cached__" 174 .none, eK P "_sre" 275 (.ref 12), eK P "TupleComp" 325 (.ref 55), eK P "func_std_string" 333 (.ref 66), eK P "add_func_stats" 351 (.ref 73), eK P "add_callers" 362 (.ref 80), eK P "Error" 384 (.ref 90), eK P "error_reply" 400 (.ref 103), eK P "parse257" 411 (.ref 112), eK P "_twin_re_1" 429 (.ref 117), eK P "_twin_re_2" 471 (.ref 122), eK P "CRLF" 473 (.str (Str.ofString "\x0d\n") 472), eK P "_quote_periods" 480 (.ref 129), eK P "_fix_eols" 487 (.ref 136), eK P "QName" 580 (.ref 210), eK P "_raise_serialization_error" 587 (.ref 221), eK P "_escape_cdata" 594 (.ref 228), eK P "_escape_attrib" 601 (.ref 235), eK P "_escape_attrib_html" 608 (.ref 242), eK P "_escape_attrib_c14n" 615 (.ref 249), eK P "_law_numbers" 627 (.ref 256), eK P "_law_signs" 637 (.ref 263), eK P "_law_names" 648 (.ref 270), eK P "_law_tables" 664 (.ref 277), eK P "_law_written" 670 (.ref 282), eK P "_law_spelled" 676 (.ref 287), eK P "_law_profile" 692 (.ref 294), eK P "_law_summed" 698 (.ref 299), eK P "_law_places" 704 (.ref 304), eK P "_law_answers" 710 (.ref 309), eK P "_law_backwards" 716 (.ref 314), eK P "_law_due" 722 (.ref 319), eK P "_law_listings" 728 (.ref 324), eK P "_law_otherwise" 734 (.ref 329), eK P "_law_apart" 748 (.ref 336), eK P "law" 754 (.ref 341)] 44 }),
 (44, { cls := .type "code", data := .fields #[.str (Str.ofString "__init__") 296, .str (Str.ofString "TupleComp.__init__") 297, .str (Str.ofString "/claim/cut.py") 298, .int 5 0, .int 2 0, .int 0 0, .int 0 0, .int 3 0, .ref 39, .bool true, .int 276 0, .ref 40, .none, .ref 41, .ref 42, .ref 43, .int 301 0, .int 5 0, .str (Str.ofString "/claim/cut.py") 302] }),
 (45, { cls := .type "function", data := .func { name := Str.ofString "__init__", qualname := Str.ofString "TupleComp.__init__", params := fnA (top2 2 0), body := .stmts (fnB (top2 2 0)), scope := fnS (top2 2 0), globals := 3, closure := [], defaults := .none, kwdefaults := .none, pyModule := .str (Str.ofString "cpy313.pstats") 282, code := .ref 44 } }),
 (51, { cls := .type "code", data := .fields #[.str (Str.ofString "compare") 304, .str (Str.ofString "TupleComp.compare") 305, .str (Str.ofString "/claim/cut.py") 306, .int 8 0, .int 3 0, .int 0 0, .int 0 0, .int 3 0, .ref 46, .bool true, .int 276 0, .ref 47, .none, .ref 48, .ref 49, .ref 50, .int 314 0, .int 8 0, .str (Str.ofString "/claim/cut.py") 315] }),
 (52, { cls := .type "function", data := .func { name := Str.ofString "compare", qualname := Str.ofString "TupleComp.compare", params := fnA (top2 2 1), body := .stmts (fnB (top2 2 1)), scope := fnS (top2 2 1), globals := 3, closure := [], defaults := .none, kwdefaults := .none, pyModule := .str (Str.ofString "cpy313.pstats") 282, code := .ref 51 } }),
 (54, { cls := .type "dict", data := .dict #[eK P "__module__" 291 (.str (Str.ofString "cpy313.pstats") 282), eK P "__firstlineno__" 295 (.int 3 294), eK P "__init__" 303 (.ref 45), eK P "compare" 316 (.ref 52), eK P "__static_attributes__" 318 (.ref 53), eK P "__dict__" 320 (.ref 56), eK P "__weakref__" 322 (.ref 57), eK P "__doc__" 323 .none] 4 }),
 (55, { cls := .type "type", data := .cls { name := Str.ofString "TupleComp", bases := [.type "object"], mro := [.ref 55, .type "object"], ns := 54, qualname := Str.ofString "TupleComp" }, slots := #[none, none, some (.str (Str.ofString "TupleComp") 284), some (.str (Str.ofString "TupleComp") 292), some (.builtin "object.__new__"), some (.bool true)] }),
 (116, { cls := .type "tuple", data := .seq #[.int 14 0, .int 4 0, .int 0 0, .int 1 0, .int 1 0, .int 6 0, .int 1 0, .int 16 0, .int 46 0, .int 1 0] }),
 (117, { cls := .type "re.Pattern", data := .fields #[.bytes #[40, 63, 109, 41, 94, 92, 46] 415, .int 8 428, .int 0 0, .none, .none, .ref 116, .int 1 0] }),
 (121, { cls := .type "tuple", data := .seq #[.int 14 0, .int 9 0, .int 4 0, .int 1 0, .int 2 0, .int 16 0, .int 10 0, .int 16 0, .int 13 0, .int 0 0, .int 7 0, .int 7 0, .int 16 0, .int 13 0, .int 16 0, .int 10 0, .int 15 0, .int 18 0, .int 5 0, .int 16 0, .int 10 0, .int 15 0, .int 13 0, .int 11 0, .int 16 0, .int 13 0, .int 5 0, .int 5 0, .int 0 0, .int 16 0, .int 10 0, .int 1 0, .int 15 0, .int 2 0, .int 0 0, .int 1 0] }),
 (122, { cls := .type "re.Pattern", data := .fields #[.str (Str.ofString "(?:\\r\\n|\\n|\\r(?!\\n))") 431, .int 32 470, .int 0 0, .none, .none, .ref 121, .int 0 0] }),
 (144, { cls := .type "tuple", data := .seq #[.none] }),
 (150, { cls := .type "code", data := .fields #[.str (Str.ofString "__init__") 502, .str (Str.ofString "QName.__init__") 503, .str (Str.ofString "/claim/cut.py") 504, .int 76 0, .int 3 0, .int 0 0, .int 0 0, .int 3 0, .ref 145, .bool true, .int 276 0, .ref 146, .none, .ref 147, .ref 148, .ref 149, .int 508 0, .int 76 0, .str (Str.ofString "/claim/cut.py") 509] }),
 (151, { cls := .type "function", data := .func { name := Str.ofString "__init__", qualname := Str.ofString "QName.__init__", params := fnA (top2 17 0), body := .stmts (fnB (top2 17 0)), scope := fnS (top2 17 0), globals := 3, closure := [], defaults := .ref 144, kwdefaults := .none, pyModule := .str (Str.ofString "cpy313.xml.etree.ElementTree") 488, code := .ref 150 } }),
 (185, { cls := .type "code", data := .fields #[.str (Str.ofString "__lt__") 540, .str (Str.ofString "QName.__lt__") 541, .str (Str.ofString "/claim/cut.py") 542, .int 95 0, .int 2 0, .int 0 0, .int 0 0, .int 3 0, .ref 180, .bool true, .int 276 0, .ref 181, .none, .ref 182, .ref 183, .ref 184, .int 545 0, .int 95 0, .str (Str.ofString "/claim/cut.py") 546] }),
 (186, { cls := .type "function", data := .func { name := Str.ofString "__lt__", qualname := Str.ofString "QName.__lt__", params := fnA (top2 17 5), body := .stmts (fnB (top2 17 5)), scope := fnS (top2 17 5), globals := 3, closure := [], defaults := .none, kwdefaults := .none, pyModule := .str (Str.ofString "cpy313.xml.etree.ElementTree") 488, code := .ref 185 } }),
 (199, { cls := .type "code", data := .fields #[.str (Str.ofString "__gt__") 556, .str (Str.ofString "QName.__gt__") 557, .str (Str.ofString "/claim/cut.py") 558, .int 105 0, .int 2 0, .int 0 0, .int 0 0, .int 3 0, .ref 194, .bool true, .int 276 0, .ref 195, .none, .ref 196, .ref 197, .ref 198, .int 561 0, .int 105 0, .str (Str.ofString "/claim/cut.py") 562] }),
 (200, { cls := .type "function", data := .func { name := Str.ofString "__gt__", qualname := Str.ofString "QName.__gt__", params := fnA (top2 17 7), body := .stmts (fnB (top2 17 7)), scope := fnS (top2 17 7), globals := 3, closure := [], defaults := .none, kwdefaults := .none, pyModule := .str (Str.ofString "cpy313.xml.etree.ElementTree") 488, code := .ref 199 } }),
 (209, { cls := .type "dict", data := .dict #[eK P "__module__" 497 (.str (Str.ofString "cpy313.xml.etree.ElementTree") 488), eK P "__firstlineno__" 501 (.int 74 500), eK P "__init__" 510 (.ref 151), eK P "__str__" 517 (.ref 158), eK P "__repr__" 524 (.ref 165), eK P "__hash__" 531 (.ref 172), eK P "__le__" 539 (.ref 179), eK P "__lt__" 547 (.ref 186), eK P "__ge__" 555 (.ref 193), eK P "__gt__" 563 (.ref 200), eK P "__eq__" 571 (.ref 207), eK P "__static_attributes__" 573 (.ref 208), eK P "__dict__" 575 (.ref 211), eK P "__weakref__" 577 (.ref 212), eK P "__doc__" 578 .none] 4 }),
 (210, { cls := .type "type", data := .cls { name := Str.ofString "QName", bases := [.type "object"], mro := [.ref 210, .type "object"], ns := 209, qualname := Str.ofString "QName" }, slots := #[none, none, some (.str (Str.ofString "QName") 490), some (.str (Str.ofString "QName") 498), some (.builtin "object.__new__"), some (.bool true)] })]
def KKa : List Addr := [3, 44, 45, 51, 52, 54, 55, 116, 117, 121, 122, 144, 150, 151, 185, 186, 199, 200, 209, 210]
theorem KKa_eq (P : Params) : KKa = (KK P).map (·.1) := rfl
def qP : Program := PySem.W.view PySem.Challenge.pw_xh0030_01 [0, 3, 4, 5, 9, 14, 15, 19, 20, 21, 22, 24, 25, 26, 27, 28, 29, 30, 31, 32, 33, 34, 35, 36, 37, 38, 39]
def looseP : List Str := [Str.ofString "TupleComp", Str.ofString "Error", Str.ofString "error_reply", Str.ofString "_twin_re_1", Str.ofString "_twin_re_2", Str.ofString "CRLF", Str.ofString "QName", Str.ofString "_raise_serialization_error"]
def XtP (s : Shared) : Bool := xlAt qP [] s && recOk (RowW.records PySem.Challenge.rw_xh0030_01.row.toRowW) s
theorem hd_both (w : World) : (openT treeTable PySem.Challenge.rw_xh0030_01.row.prog w 4430).map (fun s => (KKa.map s.heap.get?, openSeen qP looseP (importedModules PySem.Challenge.rw_xh0030_01.row.prog.main.body) XtP true s)) = some ((KK w.params).map fun p => some p.2, openGood qP looseP) := by kernel_rfl
theorem said : PySem.Challenge.rw_xh0030_01.wellSaid = true := by
 unfold OpenLaw.wellSaid
 repeat' (with_reducible refine look_both ?_ ?_)
 ·unfold OpenRow.wellSaid OpenRow.partSaid looksOpen
  repeat' (with_reducible refine look_both ?_ ?_)
  ·rw [PySem.W.Fast.te11788848310118352699]
   as_aux_lemma => decide +kernel
  ·as_aux_lemma => decide +kernel
  ·rw [PySem.W.Fast.te8377067652309620493]
   as_aux_lemma => decide +kernel
  ·as_aux_lemma => decide +kernel
  ·rw [PySem.W.Fast.te8326940854005059898]
   as_aux_lemma => decide +kernel
  ·rw [PySem.W.Fast.te17119622794617984870]
   as_aux_lemma => decide +kernel
  all_goals (as_aux_lemma => decide +kernel)
 all_goals (first
  | (rw [PySem.W.Fast.te8326940854005059898]; as_aux_lemma => decide +kernel)
  | (rw [PySem.W.Fast.te17119622794617984870]; as_aux_lemma => decide +kernel)
  | (as_aux_lemma => decide +kernel))
end Mine
end
section
open PySem PySem.W PyProof.Rows
namespace Mine
inductive PV where
 | none
 | bool (b : Bool)
 | int (i : Int)
 | str (s : Str)
 | bytes (b : Array UInt8)
 | tuple (xs : List PV)
 | list (xs : List PV)
 | dict (es : List (Str × PV))
 | inst (cls : Str) (fld : Str) (x : PV)
 | obj (cls : String) (fs : List PV)
 | val (v : Value)
abbrev PH := Addr → Option Obj
def PH.Le (G G' : PH) : Prop := ∀ a o, G a = some o → G' a = some o
def PH.In (G : PH) (h : Heap) : Prop := ∀ a o, G a = some o → h.get? a = some o
def PH.add (G : PH) (a : Addr) (o : Obj) : PH := fun b => if b = a then some o else G b
theorem PH.Le.refl (G : PH) : G.Le G := fun _ _ e => e
theorem PH.Le.trans {G G' G'' : PH} (x : G.Le G') (y : G'.Le G'') : G.Le G'' := fun a o e => y a o (x a o e)
theorem PH.Le.add {G : PH} {a : Addr} {o : Obj} (h : G a = Option.none) : G.Le (G.add a o) := fun b o' e => by
 unfold PH.add; split
 ·rename_i q; rw [q, h] at e; cases e
 ·exact e
theorem PH.add_self (G : PH) (a : Addr) (o : Obj) : G.add a o a = some o := if_pos rfl
theorem PH.add_ne (G : PH) {a b : Addr} (o : Obj) (h : b ≠ a) : G.add a o b = G b := if_neg h
theorem PH.In.add {G : PH} {h : Heap} {a : Addr} {o : Obj} (x : G.In h) (y : h.get? a = some o) : (G.add a o).In h := fun b o' e => by
 unfold PH.add at e; split at e
 ·rename_i q; cases e; rw [q]; exact y
 ·exact x b o' e
set_option genInjectivity false in
structure Wd where
 prog : Program
 w : World
 h₀ : Heap
 K : Frag
 view : Program
 loose : List Str
 mg : Str → Option Value
 mb : Str → Option Value
 osv : OsState
 T : TopRead view loose mg mb h₀
 X : K.In h₀
 P : Addr
 hP : h₀.get? P = Option.none
 tab : Array Value
abbrev Wd.knd (W : Wd) : KeyKind W.prog W.w Str := strKind W.prog W.w
abbrev Wd.M (W : Wd) : Model := model W.prog W.w
theorem Wd.neP (W : Wd) {b : Addr} {o : Obj} (e : W.h₀.get? b = some o) : b ≠ W.P := fun q => by rw [q, W.hP] at e; cases e
def HLe (W : Wd) (h h' : Heap) : Prop := ∀ b o, b ≠ W.P → h.get? b = some o → h'.get? b = some o
theorem HLe.refl (W : Wd) (h : Heap) : HLe W h h := fun _ _ _ e => e
theorem HLe.trans {W : Wd} {h h' h'' : Heap} (x : HLe W h h') (y : HLe W h' h'') : HLe W h h'' := fun b o n e => y b o n (x b o n e)
theorem HLe.push (W : Wd) (h : Heap) (o : Obj) : HLe W h (h.push o) := fun _ _ _ e => Heap.get?_push_of_some o e
theorem HLe.full {W : Wd} {h h' : Heap} (k : ∀ b o, h.get? b = some o → h'.get? b = some o) : HLe W h h' := fun b o _ e => k b o e
def HLeF (h h' : Heap) : Prop := ∀ b o, h.get? b = some o → h'.get? b = some o
theorem HLeF.refl (h : Heap) : HLeF h h := fun _ _ e => e
theorem HLeF.trans {h h' h'' : Heap} (x : HLeF h h') (y : HLeF h' h'') : HLeF h h'' := fun b o e => y b o (x b o e)
theorem HLeF.push (h : Heap) (o : Obj) : HLeF h (h.push o) := fun _ _ e => Heap.get?_push_of_some o e
theorem PH.In.leF {G : PH} {h h' : Heap} (x : G.In h) (y : HLeF h h') : G.In h' := fun a o e => y a o (x a o e)
theorem PH.In.le {W : Wd} {G : PH} {h h' : Heap} (x : G.In h) (y : HLe W h h') (n : G W.P = Option.none) : G.In h' := fun a o e => y a o (fun q => by rw [q, n] at e; cases e) (x a o e)
def Wd.Pl (W : Wd) (h : Heap) : Prop := ∃ o ps, h.get? W.P = some o ∧ o.data = .fields ps ∧ TriplesOk ps.toList ∧ o = { cls := .none, data := .fields ps } ∧ ∃ more, ps = W.tab ++ more
inductive NsIs (od : Obj) (f : Str) (u : Value)  : Prop where
 | mk : ∀ es ep, od.data = .dict es ep → StrKeys es → UniqKeys es → (∀ name, nsFind es name = if name = f then some u else none) → NsIs od f u 
mutual
def Rep (W : Wd) (G : PH) : PV → Value → Prop
 | .none, v => v = .none
 | .bool b, v => v = .bool b
 | .int i, v => ∃ t, v = .int i t
 | .str s, v => ∃ t, v = .str s t
 | .bytes b, v => ∃ t, v = .bytes b t
 | .tuple xs, v => ∃ a o vs n, v = .ref a ∧ G a = some o ∧ o.cls = .type "tuple" ∧ o.data = .seq vs n ∧ Reps W G xs vs.toList
 | .list xs, v => ∃ a o vs n, v = .ref a ∧ G a = some o ∧ o.cls = .type "list" ∧ o.data = .seq vs n ∧ Reps W G xs vs.toList
 | .dict es, v => ∃ a o kvs, v = .ref a ∧ G a = some o ∧ o.IsDictOf W.knd kvs ∧ (a == sysModules) = false ∧ RepKV W G es kvs
 | .inst c f x, v => ∃ a o C d od u, v = .ref a ∧ W.mg c = some (.ref C) ∧ G a = some o ∧ o.cls = .ref C ∧ (∀ c, o.data ≠ .cls c) ∧ o.dict = some d ∧ d ≠ a ∧
   G d = some od ∧ NsIs od f u ∧ Rep W G x u
 | .obj c fs, v => ∃ a vs, v = .ref a ∧ G a = some { cls := .type c, data := .fields vs } ∧ Reps W G fs vs.toList
 | .val u, v => v = u
def Reps (W : Wd) (G : PH) : List PV → List Value → Prop
 | [], vs => vs = []
 | p :: ps, vs => ∃ v r, vs = v :: r ∧ Rep W G p v ∧ Reps W G ps r
def RepKV (W : Wd) (G : PH) : List (Str × PV) → List (Str × Value) → Prop
 | [], vs => vs = []
 | (k, p) :: ps, vs => ∃ v r, vs = (k, v) :: r ∧ Rep W G p v ∧ RepKV W G ps r
end
mutual
theorem Rep.mono {W : Wd} {G G' : PH} (h : G.Le G') : ∀ (p : PV) (v : Value), Rep W G p v → Rep W G' p v
 | .none, _, x => x
 | .bool _, _, x => x
 | .int _, _, x => x
 | .str _, _, x => x
 | .bytes _, _, x => x
 | .val _, _, x => x
 | .tuple xs, _, x => o4_5 x fun a o vs n e g c d r => i4_5 a o vs n e (h _ _ g) c d (Reps.mono h xs _ r)
 | .list xs, _, x => o4_5 x fun a o vs n e g c d r => i4_5 a o vs n e (h _ _ g) c d (Reps.mono h xs _ r)
 | .obj c fs, _, x => o2_3 x fun a vs e g r => i2_3 a vs e (h _ _ g) (Reps.mono h fs _ r)
 | .dict es, _, x => o3_5 x fun a o kvs e g d s r => i3_5 a o kvs e (h _ _ g) d s (RepKV.mono h es _ r)
 | .inst c f y, _, x => o6_10 x fun a o C d od u e m g c1 c2 c3 ne g' ns r => i6_10 a o C d od u e m (h _ _ g) c1 c2 c3 ne (h _ _ g') ns (Rep.mono h y _ r)
theorem Reps.mono {W : Wd} {G G' : PH} (h : G.Le G') : ∀ (ps : List PV) (vs : List Value), Reps W G ps vs → Reps W G' ps vs
 | [], _, x => x
 | p :: ps, _, x => o2_3 x fun v r e a b => i2_3 v r e (Rep.mono h p _ a) (Reps.mono h ps _ b)
theorem RepKV.mono {W : Wd} {G G' : PH} (h : G.Le G') : ∀ (ps : List (Str × PV)) (vs : List (Str × Value)), RepKV W G ps vs → RepKV W G' ps vs
 | [], _, x => x
 | (k, p) :: ps, _, x => o2_3 x fun v r e a b => i2_3 v r e (Rep.mono h p _ a) (RepKV.mono h ps _ b)
end
inductive SV where
 | fz (p : PV)
 | ol (c : Addr) (xs : List PV)
 | od (c : Addr) (es : List (Str × PV))
def SV.owned : SV → Bool
 | .fz _ => false
 | _ => true
def SV.pv : SV → PV
 | .fz p => p
 | .ol _ xs => .list xs
 | .od _ es => .dict es
abbrev Sto := List (Str × SV)
def Sto.put (σ : Sto) (x : Str) (sv : SV) : Sto := match σ with
 | [] => [(x, sv)]
 | (y, u) :: r => if x == y then (y, sv) :: r else (y, u) :: Sto.put r x sv
theorem Sto.put_self (x : Str) (sv : SV) : ∀ σ : Sto, (σ.put x sv).lookup x = some sv
 | [] => by simp [Sto.put]
 | (y, u) :: r => by
  unfold Sto.put
  by_cases h : x == y
  ·rw [if_pos h, List.lookup_cons, h]
  ·rw [if_neg h, List.lookup_cons]; simp only [h]; exact put_self x sv r
theorem Sto.put_ne {x y : Str} (sv : SV) (h : y ≠ x) : ∀ σ : Sto, (σ.put x sv).lookup y = σ.lookup y
 | [] => by
  have : (y == x) = false := by simpa using h
  simp [Sto.put, List.lookup_cons, this]
 | (z, u) :: r => by
  unfold Sto.put
  by_cases q : x == z
  ·have e : x = z := by simpa using q
   subst e
   have : (y == x) = false := by simpa using h
   rw [if_pos q, List.lookup_cons, List.lookup_cons]; simp only [this]
  ·rw [if_neg q, List.lookup_cons, List.lookup_cons, put_ne sv h r]
def Holds (h : Heap) (env : Env) (x : Str) (v : Value) : Prop :=
 (env.kindOf x = some .local ∧ ∃ m, h.Ns env.locals m ∧ m x = some v) ∨
 ((env.kindOf x = some .cell ∨ env.kindOf x = some .free) ∧ ∃ c, env.cells.lookup x = some c ∧ h.IsCell c (some v))
structure Own (N : Addr → Prop) (K G : PH) (env : Env) (a : Addr) : Prop where
 k : K a = none
 g : G a = none
 n : ¬ N a
 l : a ≠ env.locals
structure OwnAt (N : Addr → Prop) (K G : PH) (env : Env) (a c : Addr) : Prop extends Own N K G env a where
 at_ : a = c
inductive OlRep (W : Wd) (N : Addr → Prop) (K G : PH) (env : Env) (h : Heap) (c : Addr) (xs : List PV) (v : Value) : Prop where
 | mk : ∀ a o vs n, v = .ref a → h.get? a = some o → o = { cls := .type "list", data := .seq vs n } → o.data = .seq vs n → Reps W G xs vs.toList → OwnAt N K G env a c → OlRep W N K G env h c xs v
inductive OdRep (W : Wd) (N : Addr → Prop) (K G : PH) (env : Env) (h : Heap) (c : Addr) (es : List (Str × PV)) (v : Value) : Prop where
 | mk : ∀ a o kvs, v = .ref a → h.get? a = some o → o.IsDictOf W.knd kvs → (a == sysModules) = false → RepKV W G es kvs → OwnAt N K G env a c → OdRep W N K G env h c es v
def SRep (W : Wd) (N : Addr → Prop) (K G : PH) (env : Env) (h : Heap) : SV → Value → Prop
 | .fz p, v => Rep W G p v
 | .ol c xs, v => OlRep W N K G env h c xs v
 | .od c es, v => OdRep W N K G env h c es v
structure EnvOk (env : Env) : Prop where
 kind : env.scope.kind = .function
 globals : env.globals = mainGlobals
 apart : ∀ x y c, env.cells.lookup x = some c → env.cells.lookup y = some c → x = y
 frame : env.frame.isSome
structure Side (W : Wd) (N : Addr → Prop) (K : PH) (env : Env) (h : Heap) : Prop where
 pl : N W.P
 kP : K W.P = Option.none
 lP : env.locals ≠ W.P
 cP : ∀ x c, env.cells.lookup x = some c → c ≠ W.P
 ps : W.Pl h
structure St (W : Wd) (N : Addr → Prop) (K G : PH) (env : Env) (wr : List Str) (σ : Sto) (s : Shared) : Prop where
 ok : EnvOk env
 base : ∀ b o, W.h₀.get? b = some o → K b = some o
 kin : K.In s.heap
 gin : G.In s.heap
 nok : ∀ a, N a → (∃ o, s.heap.get? a = some o) ∧ G a = none
 ns : ∃ m, s.heap.Ns env.locals m
 lk : K env.locals = none ∧ G env.locals = none
 cells : ∀ x ∈ wr, ∃ c v, env.kindOf x = some .cell ∧ env.cells.lookup x = some c ∧ s.heap.IsCell c v ∧ K c = none ∧ G c = none
 vars : ∀ x sv, σ.lookup x = some sv → ∃ v, Holds s.heap env x v ∧ SRep W N K G env s.heap sv v
 apart : ∀ x y sx sy v, σ.lookup x = some sx → σ.lookup y = some sy → sx.owned = true → sy.owned = true → Holds s.heap env x v → Holds s.heap env y v → x = y
 live : ∀ x c, env.cells.lookup x = some c → ∃ o, s.heap.get? c = some o
 os : s.os = W.osv
 gens : AllBare s.gens
 sd : Side W N K env s.heap
structure Room (A : Around) (n : Nat) : Prop where
 handled : A.handled = none
 depth : A.depth + n ≤ 900
 units : A.units + 20 * n ≤ 9000
theorem Holds.mono {W : Wd} {h h' : Heap} {env : Env} {x : Str} {v : Value} (k : HLe W h h') (lP : env.locals ≠ W.P) (cP : ∀ x c, env.cells.lookup x = some c → c ≠ W.P) (H : Holds h env x v) : Holds h' env x v := by
 rcases H with ⟨a, m, b, c⟩ | ⟨a, c, d, ⟨o, e, e'⟩⟩
 ·exact .inl ⟨a, m, b.at' fun o e => k _ o lP e, c⟩
 ·exact .inr ⟨a, c, d, o, k _ o (cP x c d) e, e'⟩
theorem Ns.fn {h : Heap} {a : Addr} {m m' : Str → Option Value} (x : h.Ns a m) (y : h.Ns a m') : m = m' := by
 refine o3_4 x fun o es ep h1 h2 _ h4 => ?_; clear x
 refine o3_4 y fun o' es' ep' k1 k2 _ k4 => ?_; clear y
 rw [h1] at k1; cases k1; rw [h2] at k2; cases k2
 funext z; rw [← h4, ← k4]
theorem Holds.fn {h : Heap} {env : Env} {x : Str} {v v' : Value} (a : Holds h env x v) (b : Holds h env x v') : v = v' := by
 rcases a with ⟨a1, m, a2, a3⟩ | ⟨a1, c, a2, a3⟩ <;> rcases b with ⟨b1, m', b2, b3⟩ | ⟨b1, c', b2, b3⟩
 ·have := Ns.fn a2 b2; subst this; rw [a3] at b3; cases b3; rfl
 ·rw [a1] at b1; rcases b1 with b1 | b1 <;> cases b1
 ·rw [b1] at a1; rcases a1 with a1 | a1 <;> cases a1
 ·rw [a2] at b2; cases b2
  refine o1_2 a3 fun o h1 h2 => ?_; clear a3; refine o1_2 b3 fun o' k1 k2 => ?_; clear b3
  rw [h1] at k1; cases k1; rw [h2] at k2; cases k2; rfl
structure Hp (W : Wd) (N : Addr → Prop) (G : PH) (s : Shared) : Prop where
 base : ∀ b o, W.h₀.get? b = some o → s.heap.get? b = some o
 gin : G.In s.heap
 nok : ∀ a, N a → (∃ o, s.heap.get? a = some o) ∧ G a = none
 os : s.os = W.osv
 gens : AllBare s.gens
 pl : N W.P
 ps : W.Pl s.heap
theorem Hp.gP {W : Wd} {N : Addr → Prop} {G : PH} {s : Shared} (H : Hp W N G s) : G W.P = none := (H.nok _ H.pl).2
theorem St.gP {W : Wd} {N : Addr → Prop} {K G : PH} {env : Env} {wr : List Str} {σ : Sto} {s : Shared} (S : St W N K G env wr σ s) : G W.P = none := (S.nok _ S.sd.pl).2
def fresh (G : PH) (h : Heap) (a : Addr) : Prop := (∃ o, h.get? a = some o) ∧ G a = none
theorem St.hp {W : Wd} {N : Addr → Prop} {K G : PH} {env : Env} {wr : List Str} {σ : Sto} {s : Shared} (S : St W N K G env wr σ s) : Hp W (fresh G s.heap) G s :=
 ⟨fun b o e => S.kin b o (S.base b o e), S.gin, fun _ h => h, S.os, S.gens, o2_2 S.sd.ps fun o _ e _ => ⟨⟨o, e⟩, S.gP⟩, S.sd.ps⟩
theorem SRep.mono {W : Wd} {N : Addr → Prop} {K G G' : PH} {env : Env} {h h' : Heap} {sv : SV} {v : Value} (x : SRep W N K G env h sv v) (g : G.Le G') (k : HLe W h h') (pl : N W.P) (f : ∀ a, fresh G h a → G' a = none) : SRep W N K G' env h' sv v := by
 cases sv with
 | fz p => exact Rep.mono g _ _ x
 | ol c xs =>
  obtain ⟨a, o, vs, n, e, h1, h2, h3, h4, h5⟩ := x
  exact ⟨a, o, vs, n, e, k _ _ (fun q => h5.n (q ▸ pl)) h1, h2, h3, Reps.mono g _ _ h4, ⟨⟨h5.k, f a ⟨⟨_, h1⟩, h5.g⟩, h5.n, h5.l⟩, h5.at_⟩⟩
 | od c es =>
  obtain ⟨a, o, kvs, e, h1, h2, h3, h4, h5⟩ := x
  exact ⟨a, o, kvs, e, k _ _ (fun q => h5.n (q ▸ pl)) h1, h2, h3, RepKV.mono g _ _ h4, ⟨⟨h5.k, f a ⟨⟨_, h1⟩, h5.g⟩, h5.n, h5.l⟩, h5.at_⟩⟩
theorem St.grow {W : Wd} {N : Addr → Prop} {K G G' : PH} {env : Env} {wr : List Str} {σ : Sto} {s s' : Shared} (S : St W N K G env wr σ s)
  (H : Hp W (fresh G s.heap) G' s') (g : G.Le G') (k : HLe W s.heap s'.heap) : St W N K G' env wr σ s' where
 ok := S.ok
 base := S.base
 kin := S.kin.le k S.sd.kP
 gin := H.gin
 nok := fun a ha => by
  refine o0_2 (S.nok a ha) fun za hg => ?_; refine o1_1 za fun o ho => ?_; clear za
  refine ⟨?_, (H.nok a ⟨⟨o, ho⟩, hg⟩).2⟩
  by_cases q : a = W.P
  ·subst q; refine o2_2 H.ps fun o' _ e' _ => ?_; exact ⟨o', e'⟩
  ·exact ⟨o, k _ _ q ho⟩
 ns := o1_1 S.ns fun m h => ⟨m, h.at' fun o e => k _ o S.sd.lP e⟩
 lk := ⟨S.lk.1, by
  refine o4_2 S.ns fun m o es ep h _ => ?_
  exact (H.nok _ ⟨⟨o, h⟩, S.lk.2⟩).2⟩
 cells := fun x hx => by
  refine o2_5 (S.cells x hx) fun c v h1 h2 h3 h4 h5 => ?_
  refine o1_2 (id h3) fun o ho ho' => ?_
  exact (i2_5 c v h1 h2 ⟨o, k _ _ (S.sd.cP x c h2) ho, ho'⟩ h4 ((H.nok _ ⟨⟨o, ho⟩, h5⟩).2))
 vars := fun x sv hx => by
  refine o1_2 (S.vars x sv hx) fun v h1 h2 => ?_
  exact (i1_2 v (h1.mono k S.sd.lP S.sd.cP) (h2.mono g k S.sd.pl fun a fa => (H.nok a fa).2))
 apart := fun x y sx sy v hx hy ox oy hvx hvy => by
  refine o1_2 (S.vars x sx hx) fun vx h1 _ => ?_
  refine o1_2 (S.vars y sy hy) fun vy h2 _ => ?_
  have e1 := (h1.mono k S.sd.lP S.sd.cP).fn hvx
  have e2 := (h2.mono k S.sd.lP S.sd.cP).fn hvy
  subst e1; subst e2
  exact S.apart x y sx sy _ hx hy ox oy h1 h2
 live := fun x c e => o1_1 (S.live x c e) fun o ho => ⟨o, k _ _ (S.sd.cP x c e) ho⟩
 os := H.os
 gens := H.gens
 sd := ⟨S.sd.pl, S.sd.kP, S.sd.lP, S.sd.cP, H.ps⟩
abbrev NoE : Value → Shared → Prop := fun _ _ => False
inductive VPost (W : Wd) (N : Addr → Prop) (G : PH) (s : Shared) (Ψ : PV → Prop) (v : Value) (s' : Shared) : Prop where
 | mk (G' : PH) (p : PV) (g : G.Le G') (h : Hp W N G' s') (k : HLe W s.heap s'.heap) (r : Rep W G' p v) (q : Ψ p) : VPost W N G s Ψ v s'
inductive EPost (W : Wd) (N : Addr → Prop) (K G : PH) (env : Env) (wr : List Str) (Ψ : PV → Sto → Prop) (v : Value) (s' : Shared) : Prop where
 | mk (G' : PH) (p : PV) (σ' : Sto) (g : G.Le G') (h : St W N K G' env wr σ' s') (r : Rep W G' p v) (q : Ψ p σ') : EPost W N K G env wr Ψ v s'
inductive LPost (W : Wd) (N : Addr → Prop) (K G : PH) (env : Env) (wr : List Str) (Ψ : List PV → Sto → Prop) (vs : List Value) (s' : Shared) : Prop where
 | mk (G' : PH) (ps : List PV) (σ' : Sto) (g : G.Le G') (h : St W N K G' env wr σ' s') (r : Reps W G' ps vs) (q : Ψ ps σ') : LPost W N K G env wr Ψ vs s'
inductive TPost (W : Wd) (N : Addr → Prop) (K G : PH) (env : Env) (wr : List Str) (Φ : Bool → Sto → Prop) (b : Bool) (s' : Shared) : Prop where
 | mk (G' : PH) (σ' : Sto) (g : G.Le G') (h : St W N K G' env wr σ' s') (q : Φ b σ') : TPost W N K G env wr Φ b s'
inductive UPost (W : Wd) (N : Addr → Prop) (K G : PH) (env : Env) (wr : List Str) (Φ : Sto → Prop) (u : Unit) (s' : Shared) : Prop where
 | mk (G' : PH) (σ' : Sto) (g : G.Le G') (h : St W N K G' env wr σ' s') (q : Φ σ') : UPost W N K G env wr Φ u s'
inductive PF where
 | next | brk | cont
 | ret (p : PV)
def RepF (W : Wd) (G : PH) : PF → Flow → Prop
 | .next, f => f = .next
 | .brk, f => f = .brk
 | .cont, f => f = .cont
 | .ret p, f => ∃ v, f = .ret v ∧ Rep W G p v
inductive FPost (W : Wd) (N : Addr → Prop) (K G : PH) (env : Env) (wr : List Str) (Φ : PF → Sto → Prop) (f : Flow) (s' : Shared) : Prop where
 | mk (G' : PH) (q : PF) (σ' : Sto) (g : G.Le G') (h : St W N K G' env wr σ' s') (r : RepF W G' q f) (k : Φ q σ') : FPost W N K G env wr Φ f s'
section
variable (W : Wd) (n : Nat) (env : Env) (wr : List Str)
def EvT (t : Sem Value) (σ : Sto) (Ψ : PV → Sto → Prop) : Prop :=
 ∀ A N K G s, Room A n → St W N K G env wr σ s → wpAny W.M A t (EPost W N K G env wr Ψ) NoE s
def Ev (e : Expr) (σ : Sto) (Ψ : PV → Sto → Prop) : Prop := EvT W n env wr (eval e env) σ Ψ
def Tst (e : Expr) (σ : Sto) (Φ : Bool → Sto → Prop) : Prop :=
 ∀ A N K G s, Room A n → St W N K G env wr σ s → wpAny W.M A (isTrue e env (eval e env)) (TPost W N K G env wr Φ) NoE s
def Ex1 (st : Stmt) (σ : Sto) (Φ : PF → Sto → Prop) : Prop :=
 ∀ A N K G s, Room A n → St W N K G env wr σ s → wpAny W.M A (exec st env) (FPost W N K G env wr Φ) NoE s
def Ex (b : List Stmt) (σ : Sto) (Φ : PF → Sto → Prop) : Prop :=
 ∀ A N K G s, Room A n → St W N K G env wr σ s → wpAny W.M A (execs b env) (FPost W N K G env wr Φ) NoE s
def Asg (t : Expr) (p : PV) (σ : Sto) (Φ : Sto → Prop) : Prop :=
 ∀ A N K G s v, Room A n → St W N K G env wr σ s → Rep W G p v → wpAny W.M A (assign t env v) (UPost W N K G env wr Φ) NoE s
def Evs : List Expr → Sto → (List PV → Sto → Prop) → Prop
 | [], σ, Ψ => Ψ [] σ
 | e :: es, σ, Ψ => Ev W n env wr e σ fun p σ₁ => Evs es σ₁ fun ps σ₂ => Ψ (p :: ps) σ₂
end
def BinP (W : Wd) (n : Nat) (op : Operator) (p q : PV) (Ψ : PV → Prop) : Prop :=
 ∀ A N G s a b, Room A n → Hp W N G s → Rep W G p a → Rep W G q b → wpAny W.M A (binaryOp op a b) (VPost W N G s Ψ) NoE s
def IopP (W : Wd) (n : Nat) (op : Operator) (p q : PV) (Ψ : PV → Prop) : Prop :=
 ∀ A N G s a b, Room A n → Hp W N G s → Rep W G p a → Rep W G q b → wpAny W.M A (inplaceOp op a b) (VPost W N G s Ψ) NoE s
def CmpP (W : Wd) (n : Nat) (op : CmpOp) (p q : PV) (Ψ : PV → Prop) : Prop :=
 ∀ A N G s a b, Room A n → Hp W N G s → Rep W G p a → Rep W G q b → wpAny W.M A (compareOp op a b) (VPost W N G s Ψ) NoE s
def UnP (W : Wd) (n : Nat) (op : UnaryOp) (p : PV) (Ψ : PV → Prop) : Prop :=
 ∀ A N G s a, Room A n → Hp W N G s → Rep W G p a → wpAny W.M A (unaryOp op a) (VPost W N G s Ψ) NoE s
def GetP (W : Wd) (n : Nat) (p q : PV) (Ψ : PV → Prop) : Prop :=
 ∀ A N G s a b, Room A n → Hp W N G s → Rep W G p a → Rep W G q b → wpAny W.M A (getItem a b) (VPost W N G s Ψ) NoE s
def CallP (W : Wd) (n : Nat) (pf : PV) (ps : List PV) (Ψ : PV → Prop) : Prop :=
 ∀ A N G s f vs, Room A n → Hp W N G s → Rep W G pf f → Reps W G ps vs → wpAny W.M A (call f vs) (VPost W N G s Ψ) NoE s
end Mine
end
section
open PySem PySem.W PyProof.Rows
namespace Mine
variable {W : Wd} {n : Nat} {env : Env} {wr : List Str} {σ : Sto} {N : Addr → Prop} {K G : PH} {s : Shared}
theorem Reps.length : ∀ {ps : List PV} {vs : List Value}, Reps W G ps vs → vs.length = ps.length
 | [], _, h => by obtain rfl := h; rfl
 | p :: ps, _, h => by
  refine o2_3 h fun v r zc _ b => ?_; clear h; obtain rfl := zc
  simp [Reps.length b]
theorem Reps.nil : Reps W G [] [] := rfl
theorem Reps.cons {p : PV} {ps : List PV} {v : Value} {vs : List Value} (a : Rep W G p v) (b : Reps W G ps vs) : Reps W G (p :: ps) (v :: vs) := by
 exact i2_3 v vs rfl a b
theorem SRep.sameBut {h h' : Heap} {b : Addr} {sv : SV} {v : Value} (x : SRep W N K G env h sv v) (hs : Heap.SameBut b h h') (hne : ∀ a, v = .ref a → sv.owned = true → a ≠ b) : SRep W N K G env h' sv v := by
 cases sv with
 | fz p => exact x
 | ol c xs =>
  obtain ⟨a, o, vs, n, e, h1, h2, h3, h4, h5⟩ := x
  exact ⟨a, o, vs, n, e, (hs.2 a (hne a e rfl)).trans h1, h2, h3, h4, h5⟩
 | od c es =>
  obtain ⟨a, o, kvs, e, h1, h2, h3, h4, h5⟩ := x
  exact ⟨a, o, kvs, e, (hs.2 a (hne a e rfl)).trans h1, h2, h3, h4, h5⟩
theorem SRep.not_cell {h : Heap} {c : Addr} {u : Option Value} {sv : SV} {v : Value} (x : SRep W N K G env h sv v) (hc : h.IsCell c u) (ho : sv.owned = true) : v ≠ .ref c := by
 refine o1_2 hc fun oc h1 h2 => ?_; clear hc
 cases sv with
 | fz p => cases ho
 | ol c xs =>
  obtain ⟨a, o, vs, n, e, k1, k2, k3, k4, k5⟩ := x
  intro q; rw [e] at q; cases q; rw [h1] at k1; cases k1; rw [h2] at k3; cases k3
 | od c es =>
  obtain ⟨a, o, kvs, e, k1, k2, k3, k4, k5⟩ := x
  intro q; rw [e] at q; cases q; rw [h1] at k1; cases k1
  refine o2_3 k2 fun _ es' ep d _ => ?_; clear k2
  rw [h2] at d; cases d
theorem SRep.not_locals {h : Heap} {sv : SV} {v : Value} (x : SRep W N K G env h sv v) (ho : sv.owned = true) : v ≠ .ref env.locals := by
 cases sv with
 | fz p => cases ho
 | ol c xs => obtain ⟨a, o, vs, n, e, k1, k2, k3, k4, k5⟩ := x; intro q; rw [e] at q; cases q; exact k5.l rfl
 | od c es => obtain ⟨a, o, kvs, e, k1, k2, k3, k4, k5⟩ := x; intro q; rw [e] at q; cases q; exact k5.l rfl
theorem cell_ne_locals {h : Heap} {c L : Addr} {u : Option Value} {m : Str → Option Value} (hc : h.IsCell c u) (hn : h.Ns L m) : c ≠ L := by
 rintro rfl
 refine o1_2 hc fun o h1 h2 => ?_; clear hc
 refine o3_3 hn fun o' es ep k1 k2 _ => ?_; clear hn
 rw [h1] at k1; cases k1; rw [h2] at k2; cases k2
theorem Wd.Pl.same {h h' : Heap} (x : W.Pl h) (e : h'.get? W.P = h.get? W.P) : W.Pl h' := o2_2 x fun o ps a r => ⟨o, ps, e.trans a, r⟩
theorem Wd.Pl.keep {h h' : Heap} (x : W.Pl h) (k : ∀ o, h.get? W.P = some o → h'.get? W.P = some o) : W.Pl h' := o2_2 x fun o ps a r => ⟨o, ps, k o a, r⟩
theorem St.put_core {x : Str} {sv : SV} {v : Value} {h' : Heap} {tk : Nat} {b : Addr} (S : St W N K G env wr σ s) (hs : Heap.SameBut b s.heap h') (hb : ∃ o, h'.get? b = some o)
  (bP : b ≠ W.P) (kb : K b = none) (gb : G b = none) (hns : ∃ m, h'.Ns env.locals m)
  (hoth : ∀ y v', y ≠ x → Holds s.heap env y v' → Holds h' env y v') (hx : Holds h' env x v) (hsv : SRep W N K G env h' sv v)
  (hown : ∀ y sy v', y ≠ x → σ.lookup y = some sy → sy.owned = true → Holds s.heap env y v' → v' ≠ .ref b)
  (hcl : ∀ z ∈ wr, ∃ c u, env.kindOf z = some .cell ∧ env.cells.lookup z = some c ∧ h'.IsCell c u ∧ K c = none ∧ G c = none)
  (hap : sv.owned = true → ∀ y sy, y ≠ x → σ.lookup y = some sy → sy.owned = true → ¬ Holds s.heap env y v) :
  St W N K G env wr (σ.put x sv) { s with heap := h', toks := tk } where
 ok := S.ok
 base := S.base
 kin := fun a o e => (hs.2 a (fun q => by rw [q, kb] at e; cases e)).trans (S.kin a o e)
 gin := fun a o e => (hs.2 a (fun q => by rw [q, gb] at e; cases e)).trans (S.gin a o e)
 nok := fun a ha => by
  refine o0_2 (S.nok a ha) fun za hg => ?_; refine o1_1 za fun o ho => ?_; clear za
  refine ⟨?_, hg⟩
  by_cases q : a = b
  ·subst q; exact hb
  ·exact ⟨o, (hs.2 a q).trans ho⟩
 ns := hns
 lk := S.lk
 cells := hcl
 vars := fun y sy hy => by
  by_cases q : y = x
  ·subst q; rw [Sto.put_self] at hy; cases hy; exact (i1_2 v hx hsv)
  ·rw [Sto.put_ne _ q] at hy
   refine o1_2 (S.vars y sy hy) fun v' h1 h2 => ?_
   exact (i1_2 v' (hoth y v' q h1) (h2.sameBut hs fun a e ho r => hown y sy v' q hy ho h1 (by rw [e, r])))
 apart := fun y z sy sz u hy hz oy oz hyu hzu => by
  have back : ∀ {k sk}, k ≠ x → σ.lookup k = some sk → Holds h' env k u → Holds s.heap env k u := fun {k sk} q hk hu => by
   refine o1_2 (S.vars k sk hk) fun v' h1 _ => ?_
   have := (hoth k v' q h1).fn hu; subst this; exact h1
  by_cases qy : y = x
  ·by_cases qz : z = x
   ·rw [qy, qz]
   ·rw [qy] at hy hyu; rw [Sto.put_self] at hy; cases hy
    rw [Sto.put_ne _ qz] at hz
    have e := hx.fn hyu; subst e
    exact absurd (back qz hz hzu) (hap oy z sz qz hz oz)
  ·rw [Sto.put_ne _ qy] at hy
   by_cases qz : z = x
   ·rw [qz] at hz hzu; rw [Sto.put_self] at hz; cases hz
    have e := hx.fn hzu; subst e
    exact absurd (back qy hy hyu) (hap oz y sy qy hy oy)
   ·rw [Sto.put_ne _ qz] at hz
    exact S.apart y z sy sz u hy hz oy oz (back qy hy hyu) (back qz hz hzu)
 live := fun y c e => by
  refine o1_1 (S.live y c e) fun o ho => ?_
  by_cases q : c = b
  ·rw [q]; exact hb
  ·exact ⟨o, (hs.2 c q).trans ho⟩
 os := S.os
 gens := S.gens
 sd := ⟨S.sd.pl, S.sd.kP, S.sd.lP, S.sd.cP, S.sd.ps.same (hs.2 _ (Ne.symm bP))⟩
def Writable (env : Env) (wr : List Str) (x : Str) : Prop := env.kindOf x = some .local ∨ x ∈ wr
structure Stored (W : Wd) (K G : PH) (env : Env) (x : Str) (v : Value) (s s' : Shared) : Prop where
 here : Holds s'.heap env x v
 other : ∀ y v', y ≠ x → Holds s.heap env y v' → Holds s'.heap env y v'
 same : ∃ b, Heap.SameBut b s.heap s'.heap ∧ (b = env.locals ∨ ∃ z, env.cells.lookup z = some b)
theorem St.store' {A : Around} {M : Model} {E : Value → Shared → Prop} {x : Str} {sv : SV} {v : Value} {Q : Unit → Shared → Prop} (S : St W N K G env wr σ s) (hw : Writable env wr x)
  (hsv : SRep W N K G env s.heap sv v)
  (hap : sv.owned = true → ∀ y sy, y ≠ x → σ.lookup y = some sy → sy.owned = true → ¬ Holds s.heap env y v)
  (h : ∀ s', St W N K G env wr (σ.put x sv) s' → Stored W K G env x v s s' → Q () s') : wpAny M A (storeName env x v) Q E s := by
 refine o1_1 S.ns fun m hn => ?_
 have own : ∀ y sy v', σ.lookup y = some sy → sy.owned = true → Holds s.heap env y v' → SRep W N K G env s.heap sy v' := fun y sy v' hy ho hv => by
  refine o1_2 (S.vars y sy hy) fun v'' h1 h2 => ?_
  have := h1.fn hv; subst this; exact h2
 by_cases hl : env.kindOf x = some .local
 ·refine wpAny_storeName_local hl hn (fun h' hn' hs' => ?_) (by rw [S.ok.kind]; rfl)
  have oth : ∀ y v', y ≠ x → Holds s.heap env y v' → Holds h' env y v' := fun y v' hy hv => by
   rcases hv with ⟨k1, m', k2, k3⟩ | ⟨k1, c, k2, k3⟩
   ·have := Ns.fn hn k2; subst this
    exact .inl ⟨k1, _, hn', by simp [hy, k3]⟩
   ·exact .inr ⟨k1, c, k2, k3.sameBut hs' (cell_ne_locals k3 hn)⟩
  have here : Holds h' env x v := .inl ⟨hl, _, hn', by simp⟩
  refine h _ (S.put_core (b := env.locals) hs' (o3_2 hn' fun o _ _ e _ => ⟨o, e⟩) S.sd.lP S.lk.1 S.lk.2 ⟨_, hn'⟩ oth here
   (hsv.sameBut hs' fun a e ho q => hsv.not_locals ho (by rw [e, q])) (fun y sy v' _ hy ho hv => (own y sy v' hy ho hv).not_locals ho) (fun z hz => ?_) hap) ⟨here, oth, _, hs', .inl rfl⟩
  ·refine o2_5 (S.cells z hz) fun c u k1 k2 k3 k4 k5 => ?_
   exact (i2_5 c u k1 k2 (k3.sameBut hs' (cell_ne_locals k3 hn)) k4 k5)
 ·refine o2_5 (S.cells x (hw.resolve_left hl)) fun c u k1 k2 k3 k4 k5 => ?_
  refine wpAny_storeName_cell S.ok.kind k1 k2 k3 fun h' hv' hs' => ?_
  have oth : ∀ y v', y ≠ x → Holds s.heap env y v' → Holds h' env y v' := fun y v' hy hv => by
   rcases hv with ⟨q1, m', q2, q3⟩ | ⟨q1, c', q2, q3⟩
   ·exact .inl ⟨q1, m', q2.sameBut hs' (Ne.symm (cell_ne_locals k3 q2)), q3⟩
   ·have hne : c' ≠ c := fun q => hy (S.ok.apart y x c' q2 (q ▸ k2))
    exact .inr ⟨q1, c', q2, q3.sameBut hs' hne⟩
  have here : Holds h' env x v := .inr ⟨.inl k1, c, k2, hv'⟩
  refine h _ (S.put_core (b := c) hs' (o1_2 hv' fun o e _ => ⟨o, e⟩) (S.sd.cP x c k2) k4 k5 ⟨m, hn.sameBut hs' (Ne.symm (cell_ne_locals k3 hn))⟩ oth here
   (hsv.sameBut hs' fun a e ho q => hsv.not_cell k3 ho (by rw [e, q])) (fun y sy v' _ hy ho hv => (own y sy v' hy ho hv).not_cell k3 ho) (fun z hz => ?_) hap) ⟨here, oth, _, hs', .inr ⟨x, k2⟩⟩
  ·refine o2_5 (S.cells z hz) fun c' u' q1 q2 q3 q4 q5 => ?_
   by_cases q : c' = c
   ·subst q; exact (i2_5 c' _ q1 q2 hv' q4 q5)
   ·exact (i2_5 c' u' q1 q2 (q3.sameBut hs' q) q4 q5)
theorem St.store {A : Around} {M : Model} {E : Value → Shared → Prop} {x : Str} {sv : SV} {v : Value} {Q : Unit → Shared → Prop} (S : St W N K G env wr σ s) (hw : Writable env wr x)
  (hsv : SRep W N K G env s.heap sv v)
  (hap : sv.owned = true → ∀ y sy, y ≠ x → σ.lookup y = some sy → sy.owned = true → ¬ Holds s.heap env y v)
  (h : ∀ s', St W N K G env wr (σ.put x sv) s' → Q () s') : wpAny M A (storeName env x v) Q E s := S.store' hw hsv hap fun s' S' _ => h s' S'
theorem St.tok (S : St W N K G env wr σ s) (t : Nat) : St W N K G env wr σ { s with toks := t } :=
 ⟨S.ok, S.base, S.kin, S.gin, S.nok, S.ns, S.lk, S.cells, S.vars, S.apart, S.live, S.os, S.gens, S.sd⟩
theorem Hp.tok (H : Hp W N G s) (t : Nat) : Hp W N G { s with toks := t } := ⟨H.base, H.gin, H.nok, H.os, H.gens, H.pl, H.ps⟩
theorem Hp.push {o : Obj} (H : Hp W N G s) (hf : o.isFreed = false) : Hp W N (G.add s.heap.objs.size o) { s with heap := s.heap.push o } ∧ G.Le (G.add s.heap.objs.size o) := by
 have hnone : G s.heap.objs.size = none := by
  cases e : G s.heap.objs.size with
  | none => rfl
  | some o' => exact absurd (Heap.lt_size (H.gin _ _ e)) (Nat.lt_irrefl _)
 refine ⟨⟨fun b o' e => Heap.get?_push_of_some _ (H.base b o' e), (H.gin.le (HLe.push W _ _) H.gP).add (Heap.get?_push_size _ hf), fun a ha => ?_, H.os, H.gens, H.pl, H.ps.keep fun o e => Heap.get?_push_of_some _ e⟩, PH.Le.add hnone⟩
 refine o0_2 (H.nok a ha) fun za hg => ?_; refine o1_1 za fun o' ho => ?_; clear za
 exact ⟨⟨o', Heap.get?_push_of_some _ ho⟩, by rw [PH.add_ne _ _ (Nat.ne_of_lt (Heap.lt_size ho))]; exact hg⟩
theorem St.push {o : Obj} (S : St W N K G env wr σ s) (hf : o.isFreed = false) : St W N K (G.add s.heap.objs.size o) env wr σ { s with heap := s.heap.push o } ∧ G.Le (G.add s.heap.objs.size o) :=
 o0_2 (S.hp.push hf) fun a b => ⟨S.grow a b (HLe.push _ _ _), b⟩
theorem EPost.mono {Ψ Ψ' : PV → Sto → Prop} {v : Value} (h : EPost W N K G env wr Ψ v s) (k : ∀ p σ', Ψ p σ' → Ψ' p σ') : EPost W N K G env wr Ψ' v s :=
 let ⟨G', p, σ', a, b, c, d⟩ := h; ⟨G', p, σ', a, b, c, k _ _ d⟩
theorem Ev.mono {e : Expr} {Ψ Ψ' : PV → Sto → Prop} (h : Ev W n env wr e σ Ψ) (k : ∀ p σ', Ψ p σ' → Ψ' p σ') : Ev W n env wr e σ Ψ' :=
 fun A N K G s r S => wpAny_mono (h A N K G s r S) (fun _ _ x => x.mono k) fun _ _ x => x
theorem FPost.mono {Φ Φ' : PF → Sto → Prop} {f : Flow} (h : FPost W N K G env wr Φ f s) (k : ∀ p σ', Φ p σ' → Φ' p σ') : FPost W N K G env wr Φ' f s :=
 let ⟨G', p, σ', a, b, c, d⟩ := h; ⟨G', p, σ', a, b, c, k _ _ d⟩
theorem Ex.mono {b : List Stmt} {Φ Φ' : PF → Sto → Prop} (h : Ex W n env wr b σ Φ) (k : ∀ p σ', Φ p σ' → Φ' p σ') : Ex W n env wr b σ Φ' :=
 fun A N K G s r S => wpAny_mono (h A N K G s r S) (fun _ _ x => x.mono k) fun _ _ x => x
theorem Ex1.mono {b : Stmt} {Φ Φ' : PF → Sto → Prop} (h : Ex1 W n env wr b σ Φ) (k : ∀ p σ', Φ p σ' → Φ' p σ') : Ex1 W n env wr b σ Φ' :=
 fun A N K G s r S => wpAny_mono (h A N K G s r S) (fun _ _ x => x.mono k) fun _ _ x => x
theorem Tst.mono {e : Expr} {Φ Φ' : Bool → Sto → Prop} (h : Tst W n env wr e σ Φ) (k : ∀ p σ', Φ p σ' → Φ' p σ') : Tst W n env wr e σ Φ' :=
 fun A N K G s r S => wpAny_mono (h A N K G s r S) (fun _ _ ⟨G', σ', a, b, c⟩ => ⟨G', σ', a, b, k _ _ c⟩) fun _ _ x => x
theorem Ev.cint {i : Int} {k : Nat} {pos : Pos} {Ψ : PV → Sto → Prop} (h : Ψ (.int i) σ) : Ev W n env wr (.Constant (.int i) k pos) σ Ψ :=
 fun _ _ _ G s _ S => wpAny_Constant_int ⟨G, _, σ, PH.Le.refl G, S.tok _, (by exact Exists.intro _ rfl), h⟩
theorem Ev.cstr {x : Str} {k : Nat} {pos : Pos} {Ψ : PV → Sto → Prop} (h : Ψ (.str x) σ) : Ev W n env wr (.Constant (.str x) k pos) σ Ψ :=
 fun _ _ _ G s _ S => wpAny_Constant_str ⟨G, _, σ, PH.Le.refl G, S.tok _, (by exact Exists.intro _ rfl), h⟩
theorem Ev.cbytes {x : List UInt8} {k : Nat} {pos : Pos} {Ψ : PV → Sto → Prop} (h : Ψ (.bytes x.toArray) σ) : Ev W n env wr (.Constant (.bytes x) k pos) σ Ψ :=
 fun _ _ _ G s _ S _ _ _ => ⟨G, .bytes x.toArray, σ, PH.Le.refl G, S.tok _, (by exact Exists.intro _ rfl), h⟩
theorem Ev.cbool {b : Bool} {k : Nat} {pos : Pos} {Ψ : PV → Sto → Prop} (h : Ψ (.bool b) σ) : Ev W n env wr (.Constant (.bool b) k pos) σ Ψ :=
 fun _ _ _ G s _ S => wpAny_Constant_bool ⟨G, _, σ, PH.Le.refl G, S, by exact rfl, h⟩
theorem Ev.cnone {k : Nat} {pos : Pos} {Ψ : PV → Sto → Prop} (h : Ψ .none σ) : Ev W n env wr (.Constant .none k pos) σ Ψ :=
 fun _ _ _ G s _ S => wpAny_Constant_none ⟨G, _, σ, PH.Le.refl G, S, by exact rfl, h⟩
theorem St.load {A : Around} {M : Model} {E : Value → Shared → Prop} {x : Str} {v : Value} {Q : Value → Shared → Prop} (S : St W N K G env wr σ s) (hx : Holds s.heap env x v) (h : Q v s)
  (hn : (x == ("__classdict__" : Str)) = false) : wpAny M A (loadName env x) Q E s := by
 rcases hx with ⟨a, m, b, c⟩ | ⟨a | a, c, b, d⟩
 ·exact wpAny_loadName_local S.ok.kind a b c h
 ·exact wpAny_loadName_cell S.ok.kind a b d h
 ·exact wpAny_loadName_free S.ok.kind a b d h hn
theorem Ev.var {x : Str} {p : PV} {pos : Pos} {Ψ : PV → Sto → Prop} (hx : σ.lookup x = some (.fz p)) (h : Ψ p σ)
  (hd : (x == ("__debug__" : Str)) = false := by decide) (hn : (x == ("__classdict__" : Str)) = false := by decide) : Ev W n env wr (.Name x pos) σ Ψ :=
 fun _ _ _ G s _ S => by
  refine o1_2 (S.vars x _ hx) fun v h1 h2 => ?_
  exact wpAny_Name (S.load h1 ⟨G, p, σ, PH.Le.refl G, S, h2, h⟩ hn) hd
end Mine
end
section
open PySem PySem.W PyProof.Rows
namespace Mine
abbrev KAt {α : Type} (Ψ : α → Sto → Prop) (σ : Sto) (c : α) : Prop := Ψ c σ
abbrev KAs (x : Str) (Φ : PF → Sto → Prop) (p : PV) (σ : Sto) : Prop := Φ .next (σ.put x (.fz p))
abbrev KNext {α : Type} (Φ : PF → Sto → Prop) (_ : α) (σ : Sto) : Prop := Φ .next σ
abbrev KRet (Φ : PF → Sto → Prop) (p : PV) (σ : Sto) : Prop := Φ (.ret p) σ
abbrev KBin2 (W : Wd) (n : Nat) (op : Operator) (p : PV) (Ψ : PV → Sto → Prop) (q : PV) (σ : Sto) : Prop := BinP W n op p q (KAt Ψ σ)
abbrev KBin (W : Wd) (n : Nat) (env : Env) (wr : List Str) (op : Operator) (r : Expr) (Ψ : PV → Sto → Prop) (p : PV) (σ : Sto) : Prop := Ev W n env wr r σ (KBin2 W n op p Ψ)
abbrev KUn (W : Wd) (n : Nat) (op : UnaryOp) (Ψ : PV → Sto → Prop) (p : PV) (σ : Sto) : Prop := UnP W n op p (KAt Ψ σ)
abbrev KCmp2 (W : Wd) (n : Nat) (op : CmpOp) (p : PV) (Ψ : PV → Sto → Prop) (q : PV) (σ : Sto) : Prop := CmpP W n op p q (KAt Ψ σ)
abbrev KCmp (W : Wd) (n : Nat) (env : Env) (wr : List Str) (op : CmpOp) (r : Expr) (Ψ : PV → Sto → Prop) (p : PV) (σ : Sto) : Prop := Ev W n env wr r σ (KCmp2 W n op p Ψ)
abbrev KIop (W : Wd) (n : Nat) (x : Str) (op : Operator) (p : PV) (Φ : PF → Sto → Prop) (q : PV) (σ : Sto) : Prop := IopP W n op p q (KAt (KAs x Φ) σ)
def KIfe (W : Wd) (n : Nat) (env : Env) (wr : List Str) (b o : Expr) (Ψ : PV → Sto → Prop) (c : Bool) (σ : Sto) : Prop := if c then Ev W n env wr b σ Ψ else Ev W n env wr o σ Ψ
def KIte (W : Wd) (n : Nat) (env : Env) (wr : List Str) (b o : List Stmt) (Φ : PF → Sto → Prop) (c : Bool) (σ : Sto) : Prop := if c then Ex W n env wr b σ Φ else Ex W n env wr o σ Φ
abbrev KNot (Φ : Bool → Sto → Prop) (b : Bool) (σ : Sto) : Prop := Φ (!b) σ
inductive KTst (Φ : Bool → Sto → Prop) : PV → Sto → Prop where
 | mk : ∀ {b : Bool} {σ : Sto}, Φ b σ → KTst Φ (.bool b) σ
theorem KTst.ite {W : Wd} {n : Nat} {env : Env} {wr : List Str} {b o : List Stmt} {Φ : PF → Sto → Prop} {c : Bool} {σ : Sto} (h : if c then Ex W n env wr b σ Φ else Ex W n env wr o σ Φ) : KTst (KIte W n env wr b o Φ) (.bool c) σ := .mk h
theorem KTst.ife {W : Wd} {n : Nat} {env : Env} {wr : List Str} {b o : Expr} {Ψ : PV → Sto → Prop} {c : Bool} {σ : Sto} (h : if c then Ev W n env wr b σ Ψ else Ev W n env wr o σ Ψ) : KTst (KIfe W n env wr b o Ψ) (.bool c) σ := .mk h
theorem KIte.of {W : Wd} {n : Nat} {env : Env} {wr : List Str} {b o : List Stmt} {Φ : PF → Sto → Prop} {c : Bool} {σ : Sto} (h : if c then Ex W n env wr b σ Φ else Ex W n env wr o σ Φ) : KIte W n env wr b o Φ c σ := h
theorem KIfe.of {W : Wd} {n : Nat} {env : Env} {wr : List Str} {b o : Expr} {Ψ : PV → Sto → Prop} {c : Bool} {σ : Sto} (h : if c then Ev W n env wr b σ Ψ else Ev W n env wr o σ Ψ) : KIfe W n env wr b o Ψ c σ := h
theorem iteP {c : Prop} [Decidable c] {p q : Prop} (h : c) (k : p) : if c then p else q := by rw [if_pos h]; exact k
theorem iteN {c : Prop} [Decidable c] {p q : Prop} (h : ¬c) (k : q) : if c then p else q := by rw [if_neg h]; exact k
theorem iteF {c : Bool} {p q : Prop} (h : c = false) (k : q) : if c then p else q := by rw [h]; exact k
theorem iteT {c : Bool} {p q : Prop} (h : c = true) (k : p) : if c then p else q := by rw [h]; exact k
abbrev KEvs2 (p : PV) (Ψ : List PV → Sto → Prop) (ps : List PV) (σ : Sto) : Prop := Ψ (p :: ps) σ
abbrev KEvs (W : Wd) (n : Nat) (env : Env) (wr : List Str) (es : List Expr) (Ψ : List PV → Sto → Prop) (p : PV) (σ : Sto) : Prop := Evs W n env wr es σ (KEvs2 p Ψ)
abbrev KList (Ψ : PV → Sto → Prop) (ps : List PV) (σ : Sto) : Prop := Ψ (.list ps) σ
abbrev KTup (Ψ : PV → Sto → Prop) (ps : List PV) (σ : Sto) : Prop := Ψ (.tuple ps) σ
abbrev KBody (W : Wd) (n : Nat) (env : Env) (wr : List Str) (body : List Stmt) (Φ : PF → Sto → Prop) (σ : Sto) : Prop := Ex W n env wr body σ Φ
variable {W : Wd} {n : Nat} {env : Env} {wr : List Str} {σ : Sto} {N : Addr → Prop} {K G : PH} {s : Shared}
theorem VPost.lift {Ψ : PV → Prop} {Ψ' : PV → Sto → Prop} {v : Value} {s' : Shared} (S : St W N K G env wr σ s) (h : VPost W (fresh G s.heap) G s Ψ v s') (k : ∀ p, Ψ p → Ψ' p σ) : EPost W N K G env wr Ψ' v s' :=
 let ⟨G', p, a, b, c, d, e⟩ := h
 ⟨G', p, σ, a, S.grow b a c, d, k _ e⟩
theorem EPost.le {G₀ : PH} {Ψ : PV → Sto → Prop} {v : Value} (g : G₀.Le G) (h : EPost W N K G env wr Ψ v s) : EPost W N K G₀ env wr Ψ v s :=
 let ⟨G', p, σ', a, b, c, d⟩ := h; ⟨G', p, σ', g.trans a, b, c, d⟩
theorem LPost.le {G₀ : PH} {Ψ : List PV → Sto → Prop} {v : List Value} (g : G₀.Le G) (h : LPost W N K G env wr Ψ v s) : LPost W N K G₀ env wr Ψ v s :=
 let ⟨G', p, σ', a, b, c, d⟩ := h; ⟨G', p, σ', g.trans a, b, c, d⟩
theorem TPost.le {G₀ : PH} {Ψ : Bool → Sto → Prop} {v : Bool} (g : G₀.Le G) (h : TPost W N K G env wr Ψ v s) : TPost W N K G₀ env wr Ψ v s :=
 let ⟨G', σ', a, b, d⟩ := h; ⟨G', σ', g.trans a, b, d⟩
theorem UPost.le {G₀ : PH} {Ψ : Sto → Prop} {v : Unit} (g : G₀.Le G) (h : UPost W N K G env wr Ψ v s) : UPost W N K G₀ env wr Ψ v s :=
 let ⟨G', σ', a, b, d⟩ := h; ⟨G', σ', g.trans a, b, d⟩
theorem FPost.le {G₀ : PH} {Ψ : PF → Sto → Prop} {v : Flow} (g : G₀.Le G) (h : FPost W N K G env wr Ψ v s) : FPost W N K G₀ env wr Ψ v s :=
 let ⟨G', p, σ', a, b, c, d⟩ := h; ⟨G', p, σ', g.trans a, b, c, d⟩
theorem bE {A : Around} {t : Sem Value} {Ψ : PV → Sto → Prop} {Q : Value → Shared → Prop}
  (h : wpAny W.M A t (EPost W N K G env wr Ψ) NoE s)
  (k : ∀ v p σ' G' s', G.Le G' → St W N K G' env wr σ' s' → Rep W G' p v → Ψ p σ' → Q v s') : wpAny W.M A t Q NoE s :=
 wpAny_mono h (fun v s' ⟨G', p, σ', a, b, c, d⟩ => k v p σ' G' s' a b c d) fun _ _ x => x
theorem bV {A : Around} {t : Sem Value} {Ψ : PV → Prop} {Q : Value → Shared → Prop} (S : St W N K G env wr σ s)
  (h : wpAny W.M A t (VPost W (fresh G s.heap) G s Ψ) NoE s)
  (k : ∀ v p G' s', G.Le G' → St W N K G' env wr σ s' → Rep W G' p v → Ψ p → Q v s') : wpAny W.M A t Q NoE s :=
 wpAny_mono h (fun v s' ⟨G', p, a, b, c, d, e⟩ => k v p G' s' a (S.grow b a c) d e) fun _ _ x => x
theorem bL {A : Around} {t : Sem (List Value)} {Ψ : List PV → Sto → Prop} {Q : List Value → Shared → Prop}
  (h : wpAny W.M A t (LPost W N K G env wr Ψ) NoE s)
  (k : ∀ v p σ' G' s', G.Le G' → St W N K G' env wr σ' s' → Reps W G' p v → Ψ p σ' → Q v s') : wpAny W.M A t Q NoE s :=
 wpAny_mono h (fun v s' ⟨G', p, σ', a, b, c, d⟩ => k v p σ' G' s' a b c d) fun _ _ x => x
theorem bT {A : Around} {t : Sem Bool} {Ψ : Bool → Sto → Prop} {Q : Bool → Shared → Prop}
  (h : wpAny W.M A t (TPost W N K G env wr Ψ) NoE s)
  (k : ∀ v σ' G' s', G.Le G' → St W N K G' env wr σ' s' → Ψ v σ' → Q v s') : wpAny W.M A t Q NoE s :=
 wpAny_mono h (fun v s' ⟨G', σ', a, b, d⟩ => k v σ' G' s' a b d) fun _ _ x => x
theorem bU {A : Around} {t : Sem Unit} {Ψ : Sto → Prop} {Q : Unit → Shared → Prop}
  (h : wpAny W.M A t (UPost W N K G env wr Ψ) NoE s)
  (k : ∀ v σ' G' s', G.Le G' → St W N K G' env wr σ' s' → Ψ σ' → Q v s') : wpAny W.M A t Q NoE s :=
 wpAny_mono h (fun v s' ⟨G', σ', a, b, d⟩ => k v σ' G' s' a b d) fun _ _ x => x
theorem bF {A : Around} {t : Sem Flow} {Ψ : PF → Sto → Prop} {Q : Flow → Shared → Prop}
  (h : wpAny W.M A t (FPost W N K G env wr Ψ) NoE s)
  (k : ∀ v p σ' G' s', G.Le G' → St W N K G' env wr σ' s' → RepF W G' p v → Ψ p σ' → Q v s') : wpAny W.M A t Q NoE s :=
 wpAny_mono h (fun v s' ⟨G', p, σ', a, b, c, d⟩ => k v p σ' G' s' a b c d) fun _ _ x => x
theorem fV {A : Around} {t : Sem Value} {G₀ : PH} {Ψ : PV → Prop} {Ψ' : PV → Sto → Prop} (S : St W N K G env wr σ s) (g : G₀.Le G)
  (h : wpAny W.M A t (VPost W (fresh G s.heap) G s Ψ) NoE s) (k : ∀ p, Ψ p → Ψ' p σ) : wpAny W.M A t (EPost W N K G₀ env wr Ψ') NoE s :=
 bV S h fun _ p G' _ a b c d => ⟨G', p, σ, g.trans a, b, c, k p d⟩
theorem fE {A : Around} {t : Sem Value} {G₀ : PH} {Ψ : PV → Sto → Prop} (g : G₀.Le G)
  (h : wpAny W.M A t (EPost W N K G env wr Ψ) NoE s) : wpAny W.M A t (EPost W N K G₀ env wr Ψ) NoE s :=
 wpAny_mono h (fun _ _ x => x.le g) fun _ _ x => x
theorem fT {A : Around} {t : Sem Bool} {G₀ : PH} {Ψ : Bool → Sto → Prop} (g : G₀.Le G)
  (h : wpAny W.M A t (TPost W N K G env wr Ψ) NoE s) : wpAny W.M A t (TPost W N K G₀ env wr Ψ) NoE s :=
 wpAny_mono h (fun _ _ x => x.le g) fun _ _ x => x
theorem fL {A : Around} {t : Sem (List Value)} {G₀ : PH} {Ψ : List PV → Sto → Prop} (g : G₀.Le G)
  (h : wpAny W.M A t (LPost W N K G env wr Ψ) NoE s) : wpAny W.M A t (LPost W N K G₀ env wr Ψ) NoE s :=
 wpAny_mono h (fun _ _ x => x.le g) fun _ _ x => x
theorem fU {A : Around} {t : Sem Unit} {G₀ : PH} {Ψ : Sto → Prop} (g : G₀.Le G)
  (h : wpAny W.M A t (UPost W N K G env wr Ψ) NoE s) : wpAny W.M A t (UPost W N K G₀ env wr Ψ) NoE s :=
 wpAny_mono h (fun _ _ x => x.le g) fun _ _ x => x
theorem fF {A : Around} {t : Sem Flow} {G₀ : PH} {Ψ : PF → Sto → Prop} (g : G₀.Le G)
  (h : wpAny W.M A t (FPost W N K G env wr Ψ) NoE s) : wpAny W.M A t (FPost W N K G₀ env wr Ψ) NoE s :=
 wpAny_mono h (fun _ _ x => x.le g) fun _ _ x => x
theorem St.freeze {x : Str} {sv : SV} {v : Value} (S : St W N K G env wr σ s) (hx : σ.lookup x = some sv) (ho : sv.owned = true) (hv : Holds s.heap env x v) :
  ∃ G', G.Le G' ∧ St W N K G' env wr (σ.put x (.fz sv.pv)) s ∧ Rep W G' sv.pv v := by
 refine o1_2 (S.vars x sv hx) fun v' h1 h2 => ?_
 have e := h1.fn hv; subst e
 have key : ∃ a o, v' = .ref a ∧ s.heap.get? a = some o ∧ Own N K G env a ∧ Rep W (G.add a o) sv.pv v' := by
  cases sv with
  | fz p => cases ho
  | ol c xs =>
   obtain ⟨a, o, vs, n, e, k1, k2, k3, k4, k5⟩ := h2
   exact (i2_4 a o e k1 k5.toOwn (by unfold SV.pv Rep; exact (i4_5 a o vs n e (PH.add_self ..) (by rw [k2]) k3 (Reps.mono (PH.Le.add k5.g) _ _ k4))))
  | od c es =>
   obtain ⟨a, o, kvs, e, k1, k2, k3, k4, k5⟩ := h2
   exact (i2_4 a o e k1 k5.toOwn (by unfold SV.pv Rep; exact (i3_5 a o kvs e (PH.add_self ..) k2 k3 (RepKV.mono (PH.Le.add k5.g) _ _ k4))))
 refine o2_4 key fun a o e ha hown hrep => ?_; clear key
 have hnc : ∀ c u, s.heap.IsCell c u → c ≠ a := fun c u hc q => h2.not_cell hc ho (by rw [e, q])
 refine (i1_3 (G.add a o) (PH.Le.add hown.g) ?_ hrep)
 refine ⟨S.ok, S.base, S.kin, S.gin.add ha, fun b hb => ?_, S.ns, ⟨S.lk.1, by rw [PH.add_ne _ _ (Ne.symm hown.l)]; exact S.lk.2⟩, fun z hz => ?_, fun y sy hy => ?_, fun y z sy sz u hy hz oy oz hyu hzu => ?_, S.live, S.os, S.gens, S.sd⟩
 ·refine o0_2 (S.nok b hb) fun p q => ?_
  exact ⟨p, by rw [PH.add_ne _ _ (fun (r : b = a) => hown.n (r ▸ hb))]; exact q⟩
 ·refine o2_5 (S.cells z hz) fun c u k1 k2 k3 k4 k5 => ?_
  exact (i2_5 c u k1 k2 k3 k4 (by rw [PH.add_ne _ _ (hnc c u k3)]; exact k5))
 ·by_cases q : y = x
  ·subst q; rw [Sto.put_self] at hy; cases hy; exact (i1_2 v' h1 hrep)
  ·rw [Sto.put_ne _ q] at hy
   refine o1_2 (S.vars y sy hy) fun u k1 k2 => ?_
   refine (i1_2 u k1 ?_)
   cases sy with
   | fz p => exact Rep.mono (PH.Le.add hown.g) _ _ k2
   | ol c xs =>
    obtain ⟨b, o', vs, n, e', j1, j2, j3, j4, j5⟩ := k2
    have hne : b ≠ a := fun r => q (S.apart y x _ sv v' hy hx rfl ho (by rw [e, ← r, ← e']; exact k1) h1)
    exact ⟨b, o', vs, n, e', j1, j2, j3, Reps.mono (PH.Le.add hown.g) _ _ j4, ⟨⟨j5.k, by rw [PH.add_ne _ _ hne]; exact j5.g, j5.n, j5.l⟩, j5.at_⟩⟩
   | od c es =>
    obtain ⟨b, o', kvs, e', j1, j2, j3, j4, j5⟩ := k2
    have hne : b ≠ a := fun r => q (S.apart y x _ sv v' hy hx rfl ho (by rw [e, ← r, ← e']; exact k1) h1)
    exact ⟨b, o', kvs, e', j1, j2, j3, RepKV.mono (PH.Le.add hown.g) _ _ j4, ⟨⟨j5.k, by rw [PH.add_ne _ _ hne]; exact j5.g, j5.n, j5.l⟩, j5.at_⟩⟩
 ·have ny : y ≠ x := by rintro rfl; rw [Sto.put_self] at hy; cases hy; cases oy
  have nz : z ≠ x := by rintro rfl; rw [Sto.put_self] at hz; cases hz; cases oz
  rw [Sto.put_ne _ ny] at hy; rw [Sto.put_ne _ nz] at hz
  exact S.apart y z sy sz u hy hz oy oz hyu hzu
theorem Ev.own {x : Str} {sv : SV} {pos : Pos} {Ψ : PV → Sto → Prop} (hx : σ.lookup x = some sv) (ho : sv.owned = true) (h : Ψ sv.pv (σ.put x (.fz sv.pv)))
  (hd : (x == ("__debug__" : Str)) = false := by decide) (hn : (x == ("__classdict__" : Str)) = false := by decide) : Ev W n env wr (.Name x pos) σ Ψ :=
 fun _ _ _ G s _ S => by
  refine o1_2 (S.vars x _ hx) fun v h1 _ => ?_
  refine o1_3 (S.freeze hx ho h1) fun G' g S' r => ?_
  exact wpAny_Name (S.load h1 ⟨G', _, _, g, S', r, h⟩ hn) hd
def Wd.Top (W : Wd) (x : Str) (v : Value) : Prop := W.mg x = some v ∨ (W.mg x = none ∧ bootBuiltins x = some v ∧ x ≠ "__name__")
structure EnvG (env : Env) : Prop where
 builtins : env.builtins = builtinsNs
theorem Ev.glob {x : Str} {v : Value} {pos : Pos} {Ψ : PV → Sto → Prop} (hk : env.kindOf x = some .globalImplicit) (hb : env.builtins = builtinsNs) (hv : W.Top x v) (h : Ψ (.val v) σ)
  (hd : (x == ("__debug__" : Str)) = false := by decide) : Ev W n env wr (.Name x pos) σ Ψ :=
 fun _ _ _ G s _ S => by
  have key : EPost W _ _ G env wr Ψ v s := ⟨G, _, σ, PH.Le.refl G, S, by exact rfl, h⟩
  have keep : ∀ b o, W.h₀.get? b = some o → s.heap.get? b = some o := fun b o e => S.kin b o (S.base b o e)
  have g : s.heap.Ns env.globals W.mg := by rw [S.ok.globals]; exact W.T.g.keeps keep
  rcases hv with hv | ⟨h1, h2, h3⟩
  ·exact Calls.Name_function_global S.ok.kind hk (Calls.loadGlobal_global g hv key) hd
  ·exact Calls.Name_function_global S.ok.kind hk (Calls.loadGlobal_builtin g h1 (by rw [hb]; exact W.T.b.keeps keep) ((W.T.builtins x h3).trans h2) key) hd
theorem Ev.bin {l r : Expr} {op : Operator} {pos : Pos} {Ψ : PV → Sto → Prop}
  (h : Ev W n env wr l σ (KBin W n env wr op r Ψ)) : Ev W n env wr (.BinOp l op r pos) σ Ψ :=
 fun A N K G s R S => wpAny_BinOp (bE (h A N K G s R S) fun a p σ₁ G₁ s₁ g₁ S₁ r₁ h₁ =>
  bE (h₁ A N K G₁ s₁ R S₁) fun b q σ₂ G₂ s₂ g₂ S₂ r₂ h₂ =>
   fV S₂ (g₁.trans g₂) (h₂ A _ G₂ s₂ a b R S₂.hp (Rep.mono g₂ _ _ r₁) r₂) fun _ x => x)
theorem Ev.un {x : Expr} {op : UnaryOp} {pos : Pos} {Ψ : PV → Sto → Prop}
  (h : Ev W n env wr x σ (KUn W n op Ψ)) : Ev W n env wr (.UnaryOp op x pos) σ Ψ :=
 fun A N K G s R S => wpAny_UnaryOp (bE (h A N K G s R S) fun a p σ₁ G₁ s₁ g₁ S₁ r₁ h₁ =>
   fV S₁ g₁ (h₁ A _ G₁ s₁ a R S₁.hp r₁) fun _ x => x)
theorem Ev.cmp {l r : Expr} {op : CmpOp} {pos : Pos} {Ψ : PV → Sto → Prop}
  (h : Ev W n env wr l σ (KCmp W n env wr op r Ψ))
  (hm : behindInMarks op r = false := by with_unfolding_all rfl) : Ev W n env wr (.Compare l [op] [r] pos) σ Ψ :=
 fun A N K G s R S => wpAny_Compare1 (hm := hm) (bE (h A N K G s R S) fun a p σ₁ G₁ s₁ g₁ S₁ r₁ h₁ =>
  bE (h₁ A N K G₁ s₁ R S₁) fun b q σ₂ G₂ s₂ g₂ S₂ r₂ h₂ =>
   fV S₂ (g₁.trans g₂) (h₂ A _ G₂ s₂ a b R S₂.hp (Rep.mono g₂ _ _ r₁) r₂) fun _ x => x)
theorem Ev.ife {t b o : Expr} {pos : Pos} {Ψ : PV → Sto → Prop}
  (h : Tst W n env wr t σ (KIfe W n env wr b o Ψ)) : Ev W n env wr (.IfExp t b o pos) σ Ψ :=
 fun A N K G s R S => wpAny_IfExp (bT (h A N K G s R S) fun c σ₁ G₁ s₁ g₁ S₁ h₁ => by
  cases c
  ·exact fE g₁ (h₁ A N K G₁ s₁ R S₁)
  ·exact fE g₁ (h₁ A N K G₁ s₁ R S₁))
def SubP (W : Wd) (n : Nat) (value slice : Expr) (p q : PV) (Ψ : PV → Prop) : Prop :=
 ∀ A N G s a b, Room A n → Hp W N G s → Rep W G p a → Rep W G q b → wpAny W.M A (subscriptTail value slice a b) (VPost W N G s Ψ) NoE s
theorem Ev.sub {v i : Expr} {pos : Pos} {Ψ : PV → Sto → Prop}
  (h : Ev W n env wr v σ fun p σ₁ => Ev W n env wr i σ₁ fun q σ₂ => SubP W n v i p q fun c => Ψ c σ₂) : Ev W n env wr (.Subscript v i pos) σ Ψ :=
 fun A N K G s R S => Subscript_ (bE (h A N K G s R S) fun a p σ₁ G₁ s₁ g₁ S₁ r₁ h₁ =>
  bE (h₁ A N K G₁ s₁ R S₁) fun b q σ₂ G₂ s₂ g₂ S₂ r₂ h₂ =>
   fV S₂ (g₁.trans g₂) (h₂ A _ G₂ s₂ a b R S₂.hp (Rep.mono g₂ _ _ r₁) r₂) fun _ x => x)
def noStar : List Expr → Bool
 | [] => true
 | e :: r => !isStarred e && noStar r
theorem starEach_cons {e : Expr} {r : List Expr} (h : isStarred e = false) : starEach (e :: r) env = (false, eval e env) :: starEach r env := by
 cases e <;> first | rfl | cases h
theorem Evs.wp {pos : Pos} {A : Around} (R : Room A n) : ∀ (es : List Expr) (σ : Sto) (Ψ : List PV → Sto → Prop) (G : PH) (s : Shared), noStar es = true → Evs W n env wr es σ Ψ → St W N K G env wr σ s →
  wpAny W.M A (spliced (backTo pos (starEach es env))) (LPost W N K G env wr Ψ) NoE s
 | [], σ, Ψ, G, s, _, h, S => wpAny_items_nil ⟨G, [], σ, PH.Le.refl G, S, Reps.nil, h⟩
 | e :: es, σ, Ψ, G, s, hn, h, S => by
  refine o0_2 (Bool.and_eq_true_iff.mp hn) fun h1 h2 => ?_
  refine wpAny_items_cons (bE (h A N K G s R S) fun v p σ₁ G₁ s₁ g₁ S₁ r₁ h₁ => ?_) (starEach_cons (by simpa using h1))
  refine bL (Evs.wp R es σ₁ _ G₁ s₁ h2 h₁ S₁) fun vs ps σ₂ G₂ s₂ g₂ S₂ r₂ h₂ => ?_
  exact ⟨G₂, p :: ps, σ₂, g₁.trans g₂, S₂, Reps.cons (Rep.mono g₂ _ _ r₁) r₂, h₂⟩
theorem Rep.newList {ps : List PV} {vs : List Value} {h : Heap} {a : Addr} {o : Obj} (ha : o = { cls := .type "list", data := .seq vs.toArray }) (hg : G a = some o) (r : Reps W G ps vs) : Rep W G (.list ps) (.ref a) := by
 exact i4_5 a o vs.toArray 0 rfl hg (by rw [ha]) (by rw [ha]) (by simpa using r)
theorem Rep.newTuple {ps : List PV} {vs : List Value} {a : Addr} {o : Obj} (ha : o = { cls := .type "tuple", data := .seq vs.toArray }) (hg : G a = some o) (r : Reps W G ps vs) : Rep W G (.tuple ps) (.ref a) := by
 exact i4_5 a o vs.toArray 0 rfl hg (by rw [ha]) (by rw [ha]) (by simpa using r)
theorem Ev.list {es : List Expr} {pos : Pos} {Ψ : PV → Sto → Prop} (h : Evs W n env wr es σ fun ps σ' => ps.length ≤ sizeLine ∧ Ψ (.list ps) σ') (hn : noStar es = true := by with_unfolding_all rfl) : Ev W n env wr (.List es pos) σ Ψ :=
 fun A N K G s R S => wpAny_List (bL (Evs.wp R es σ _ G s hn h S) fun vs ps σ₁ G₁ s₁ g₁ S₁ r₁ h₁ => by
  refine o0_2 (S₁.push (o := { cls := .type "list", data := .seq vs.toArray }) rfl) fun S₂ g₂ => ?_
  exact ⟨by rw [r₁.length]; exact h₁.1, _, _, σ₁, g₁.trans g₂, S₂, Rep.newList (h := s.heap) rfl (PH.add_self ..) (Reps.mono g₂ _ _ r₁), h₁.2⟩)
theorem Ev.tup {es : List Expr} {k : Nat} {pos : Pos} {Ψ : PV → Sto → Prop} (h : Evs W n env wr es σ fun ps σ' => ps.length ≤ sizeLine ∧ Ψ (.tuple ps) σ') (hn : noStar es = true := by with_unfolding_all rfl) : Ev W n env wr (.Tuple es k pos) σ Ψ :=
 fun A N K G s R S => wpAny_Tuple (bL (Evs.wp R es σ _ G s hn h S) fun vs ps σ₁ G₁ s₁ g₁ S₁ r₁ h₁ => by
  refine o0_2 (S₁.push (o := { cls := .type "tuple", data := .seq vs.toArray }) rfl) fun S₂ g₂ => ?_
  exact ⟨by rw [r₁.length]; exact h₁.1, _, _, σ₁, g₁.trans g₂, S₂, Rep.newTuple rfl (PH.add_self ..) (Reps.mono g₂ _ _ r₁), h₁.2⟩)
def TruP (W : Wd) (n : Nat) (p : PV) (b : Bool) : Prop :=
 ∀ A N G s a (Q : Bool → Shared → Prop), Room A n → Hp W N G s → Rep W G p a → (∀ t, Q b { s with toks := t }) → wpAny W.M A (truthy a) Q NoE s
theorem TruP.bool {b : Bool} : TruP W n (.bool b) b := fun A N G s a Q _ _ r h => by
 obtain rfl := r; exact wpAny_truthy_bool (h s.toks)
theorem Tst.cmp {l r : Expr} {op : CmpOp} {pos : Pos} {Φ : Bool → Sto → Prop}
  (h : Ev W n env wr l σ (KCmp W n env wr op r (KTst Φ)))
  (hm : behindInMarks op r = false := by with_unfolding_all rfl) : Tst W n env wr (.Compare l [op] [r] pos) σ Φ :=
 fun A N K G s R S => wpAny_isTrue_Compare1 (hm := hm) (bE (h A N K G s R S) fun a p σ₁ G₁ s₁ g₁ S₁ r₁ h₁ =>
  bE (h₁ A N K G₁ s₁ R S₁) fun b q σ₂ G₂ s₂ g₂ S₂ r₂ h₂ =>
   bV S₂ (h₂ A _ G₂ s₂ a b R S₂.hp (Rep.mono g₂ _ _ r₁) r₂) fun v c G₃ s₃ g₃ S₃ r₃ h₃ => by
    cases h₃ with
    | mk h₃ => obtain rfl := r₃; exact wpAny_truthy_bool ⟨G₃, σ₂, (g₁.trans g₂).trans g₃, S₃, h₃⟩)
theorem Tst.val {e : Expr} {Φ : Bool → Sto → Prop} (h : Ev W n env wr e σ fun p σ₁ => ∃ b, TruP W n p b ∧ Φ b σ₁)
  (he : ∀ whole, isTrue e env whole = (do let v ← whole; standAt e.pos; holding [v] (truthy v)) := by intro _; with_unfolding_all rfl) : Tst W n env wr e σ Φ :=
 fun A N K G s R S => wpAny_isTrue_value (bE (h A N K G s R S) fun a p σ₁ G₁ s₁ g₁ S₁ r₁ zz =>
  o1_2 zz fun b t h₁ => t A _ G₁ s₁ a _ R S₁.hp r₁ fun tk => ⟨G₁, σ₁, g₁, S₁.tok tk, h₁⟩) (he _)
theorem Tst.not {e : Expr} {pos : Pos} {Φ : Bool → Sto → Prop} (h : Tst W n env wr e σ (KNot Φ)) : Tst W n env wr (.UnaryOp .Not e pos) σ Φ :=
 fun A N K G s R S => wpAny_isTrue_Not (bT (h A N K G s R S) fun b σ₁ G₁ s₁ g₁ S₁ h₁ => ⟨G₁, σ₁, g₁, S₁, h₁⟩)
def Tsts (W : Wd) (n : Nat) (env : Env) (wr : List Str) (op : BoolOp) : List Expr → Sto → (Bool → Sto → Prop) → Prop
 | [], σ, Φ => Φ (op == .And) σ
 | e :: es, σ, Φ => Tst W n env wr e σ fun b σ₁ => if b == (op == .And) then Tsts W n env wr op es σ₁ Φ else Φ b σ₁
abbrev KTsts (W : Wd) (n : Nat) (env : Env) (wr : List Str) (op : BoolOp) (es : List Expr) (Φ : Bool → Sto → Prop) (b : Bool) (σ : Sto) : Prop := if b == (op == .And) then Tsts W n env wr op es σ Φ else Φ b σ
theorem KTst.tsts {op : BoolOp} {es : List Expr} {Φ : Bool → Sto → Prop} {b : Bool} (h : if b == (op == .And) then Tsts W n env wr op es σ Φ else Φ b σ) : KTst (KTsts W n env wr op es Φ) (.bool b) σ := .mk h
theorem Tsts.wp {A : Around} (R : Room A n) : ∀ (op : BoolOp) (es : List Expr) (σ : Sto) (Φ : Bool → Sto → Prop) (G : PH) (s : Shared), Tsts W n env wr op es σ Φ → St W N K G env wr σ s →
  wpAny W.M A (allTrue op es env) (TPost W N K G env wr Φ) NoE s
 | .And, [], σ, Φ, G, s, h, S => wpAny_allTrue_And_nil ⟨G, σ, PH.Le.refl G, S, h⟩
 | .Or, [], σ, Φ, G, s, h, S => wpAny_allTrue_Or_nil ⟨G, σ, PH.Le.refl G, S, h⟩
 | .And, e :: es, σ, Φ, G, s, h, S => wpAny_allTrue_And_cons (bT (h A N K G s R S) fun b σ₁ G₁ s₁ g₁ S₁ h₁ => by
   cases b
   ·exact ⟨G₁, σ₁, g₁, S₁, h₁⟩
   ·exact fT g₁ (Tsts.wp R .And es σ₁ Φ G₁ s₁ h₁ S₁))
 | .Or, e :: es, σ, Φ, G, s, h, S => wpAny_allTrue_Or_cons (bT (h A N K G s R S) fun b σ₁ G₁ s₁ g₁ S₁ h₁ => by
   cases b
   ·exact fT g₁ (Tsts.wp R .Or es σ₁ Φ G₁ s₁ h₁ S₁)
   ·exact ⟨G₁, σ₁, g₁, S₁, h₁⟩)
theorem Tst.boolop {op : BoolOp} {es : List Expr} {pos : Pos} {Φ : Bool → Sto → Prop} (h : Tsts W n env wr op es σ Φ) : Tst W n env wr (.BoolOp op es pos) σ Φ :=
 fun _ _ _ G s R S => wpAny_isTrue_BoolOp (Tsts.wp R op es σ Φ G s h S)
theorem Ex.nil {Φ : PF → Sto → Prop} (h : Φ .next σ) : Ex W n env wr [] σ Φ :=
 fun _ _ _ G _ _ S => wpAny_execs_nil ⟨G, .next, σ, PH.Le.refl G, S, rfl, h⟩
abbrev Nxt (W : Wd) (n : Nat) (env : Env) (wr : List Str) (r : List Stmt) (Φ : PF → Sto → Prop) (f : PF) (σ : Sto) : Prop := match f with | .next => Ex W n env wr r σ Φ | f => Φ f σ
abbrev Lp (J : Sto → Prop) (Φ : PF → Sto → Prop) (f : PF) (σ : Sto) : Prop := match f with | .next => J σ | .cont => J σ | .brk => Φ .next σ | .ret v => Φ (.ret v) σ
theorem Ex.cons {st : Stmt} {r : List Stmt} {Φ : PF → Sto → Prop} (h : Ex1 W n env wr st σ (Nxt W n env wr r Φ)) : Ex W n env wr (st :: r) σ Φ :=
 fun A N K G s R S => wpAny_execs_cons (bF (h A N K G s R S) fun f q σ₁ G₁ s₁ g₁ S₁ r₁ h₁ => by
  cases q with
  | next => obtain rfl := r₁; exact fF g₁ (h₁ A N K G₁ s₁ R S₁)
  | brk => obtain rfl := r₁; exact ⟨G₁, .brk, σ₁, g₁, S₁, rfl, h₁⟩
  | cont => obtain rfl := r₁; exact ⟨G₁, .cont, σ₁, g₁, S₁, rfl, h₁⟩
  | ret p => refine o1_2 r₁ ?_; clear r₁; intro v e r₁; subst e; exact ⟨G₁, .ret p, σ₁, g₁, S₁, (Exists.intro v ⟨rfl, r₁⟩), h₁⟩)
theorem Ex1.ret {e : Expr} {pos : Pos} {Φ : PF → Sto → Prop} (h : Ev W n env wr e σ (KRet Φ)) : Ex1 W n env wr (.Return (some e) pos) σ Φ :=
 fun A N K G s R S => wpAny_Return_some (bE (h A N K G s R S) fun v p σ₁ G₁ s₁ g₁ S₁ r₁ h₁ => ⟨G₁, .ret p, σ₁, g₁, S₁, (Exists.intro v ⟨rfl, r₁⟩), h₁⟩)
theorem Ex1.ite {t : Expr} {b o : List Stmt} {pos : Pos} {Φ : PF → Sto → Prop} (h : Tst W n env wr t σ (KIte W n env wr b o Φ)) : Ex1 W n env wr (.If t b o pos) σ Φ :=
 fun A N K G s R S => wpAny_If (bT (h A N K G s R S) fun c σ₁ G₁ s₁ g₁ S₁ h₁ => by
  cases c
  ·exact fF g₁ (h₁ A N K G₁ s₁ R S₁)
  ·exact fF g₁ (h₁ A N K G₁ s₁ R S₁))
theorem Ex1.brk {pos : Pos} {Φ : PF → Sto → Prop} (h : Φ .brk σ) : Ex1 W n env wr (.Break pos) σ Φ :=
 fun _ _ _ G _ _ S => wpAny_Break ⟨G, .brk, σ, PH.Le.refl G, S, rfl, h⟩
theorem St.storeFz {A : Around} {M : Model} {E : Value → Shared → Prop} {x : Str} {p : PV} {v : Value} {Q : Unit → Shared → Prop} (S : St W N K G env wr σ s) (hw : Writable env wr x) (r : Rep W G p v)
  (h : ∀ s', St W N K G env wr (σ.put x (.fz p)) s' → Q () s') : wpAny M A (storeName env x v) Q E s :=
 S.store (sv := .fz p) hw r (fun e => by cases e) h
theorem Ex1.assign {x : Str} {e : Expr} {px pos : Pos} {Φ : PF → Sto → Prop} (hw : Writable env wr x) (h : Ev W n env wr e σ (KAs x Φ))
  (hs : swapsWith e (some (.Name x px)) pos.line env = pure false := by with_unfolding_all rfl) : Ex1 W n env wr (.Assign [.Name x px] e pos) σ Φ :=
 fun A N K G s R S => wpAny_Assign_Name (hs := hs) (bE (h A N K G s R S) fun v p σ₁ G₁ s₁ g₁ S₁ r₁ h₁ =>
  S₁.storeFz hw r₁ fun s' S' => ⟨G₁, .next, _, g₁, S', rfl, h₁⟩)
theorem Asg.name {x : Str} {px : Pos} {p : PV} {Φ : Sto → Prop} (hw : Writable env wr x) (h : Φ (σ.put x (.fz p))) : Asg W n env wr (.Name x px) p σ Φ :=
 fun _ _ _ G _ _ _ S r => wpAny_assign_Name (S.storeFz hw r fun _ S' => ⟨G, _, PH.Le.refl G, S', h⟩)
theorem Ex1.augName {x : Str} {op : Operator} {e : Expr} {px pos : Pos} {p : PV} {Φ : PF → Sto → Prop} (hw : Writable env wr x) (hx : σ.lookup x = some (.fz p))
  (h : Ev W n env wr e σ (KIop W n x op p Φ)) (hn : (x == ("__classdict__" : Str)) = false := by decide) : Ex1 W n env wr (.AugAssign (.Name x px) op e pos) σ Φ :=
 fun A N K G s R S => by
  refine o1_2 (S.vars x _ hx) fun v h1 h2 => ?_
  refine wpAny_AugAssign_Name (S.load h1 ?_ hn)
  refine bE (h A N K G s R S) fun u q σ₁ G₁ s₁ g₁ S₁ r₁ h₁ => ?_
  refine bV S₁ (h₁ A _ G₁ s₁ v u R S₁.hp (Rep.mono g₁ _ _ h2) r₁) fun c pc G₂ s₂ g₂ S₂ r₂ h₂ => ?_
  exact S₂.storeFz hw r₂ fun s' S' => ⟨G₂, .next, _, g₁.trans g₂, S', rfl, h₂⟩
def KeepOk (W : Wd) (f : Value) : Prop := ∀ (h : Heap), (∀ b o, W.h₀.get? b = some o → h.get? b = some o) → ∃ k, (k = Keeper.frame ∨ k = Keeper.machine ∨ k = Keeper.boundFrame) ∧ Looks W.M h (keeperOf f) k
theorem KeepOk.builtin {id : String} : KeepOk W (.builtin id) := fun _ _ => (i1_2 .machine (.inr (.inl rfl)) (fun _ _ _ _ _ q => wpAny_pure q))
theorem KeepOk.type {id : String} : KeepOk W (.type id) := fun _ _ => (i1_2 .machine (.inr (.inl rfl)) (fun _ _ _ _ _ q => wpAny_pure q))
theorem KeepOk.fn {f : Addr} {o : Obj} {fd : FuncData} (ho : W.h₀.get? f = some o) (hd : o.data = .func fd) : KeepOk W (.ref f) := fun h k => by
 refine (i1_2 .frame (.inl rfl) (fun A Q E s kk q => ?_))
 unfold keeperOf
 refine wpAny_bind (wpAny_load (kk _ _ (k _ _ ho)) ?_)
 rw [hd]; exact wpAny_pure q
theorem KeepOk.of_K {f : Value} (h : keepIn W.K f = true) : KeepOk W f := fun hh k => by
 refine o1_2 (looks_keep (M := W.M) h (W.X.keeps k)) fun k' a b => ?_
 exact (i1_2 k' (a.elim .inl fun e => .inr (.inl e)) b)
theorem starred_none : ∀ (es : List Expr) (pos : Pos), noStar es = true → (backTo pos (starEach es env)).any (·.1) = false
 | [], _, _ => rfl
 | e :: es, pos, h => by
  refine o0_2 (Bool.and_eq_true_iff.mp h) fun h1 h2 => ?_
  rw [starEach_cons (by simpa using h1)]
  show (false || (backTo pos (starEach es env)).any (·.1)) = false
  rw [starred_none es pos h2]; rfl
theorem callWith_wp {f : Value} {first : List Value} {es : List Expr} {pos : Pos} {A : Around} {Ψ : PV → Sto → Prop} {Ψ₀ : List PV → Sto → Prop} (R : Room A n) (hk : KeepOk W f) (hn : noStar es = true) (h : Evs W n env wr es σ Ψ₀) (S : St W N K G env wr σ s)
  (hc : ∀ vs ps σ₁ G₁ s₁, G.Le G₁ → St W N K G₁ env wr σ₁ s₁ → Reps W G₁ ps vs → Ψ₀ ps σ₁ → wpAny W.M A (call f (first ++ vs)) (EPost W N K G₁ env wr Ψ) NoE s₁) :
  wpAny W.M A (callWith pos f first (backTo pos (starEach es env)) []) (EPost W N K G env wr Ψ) NoE s := by
 refine callWith_of (P := fun h => ∀ b o, W.h₀.get? b = some o → h.get? b = some o) (by show ((backTo pos (starEach es env)).any (·.1) || false) = false; rw [starred_none es pos hn]; rfl) (fun hh k => hk hh k) ?_
 have fin : wpAny W.M A (spliced (backTo pos (starEach es env))) (fun vs s₁ => (∀ b o, W.h₀.get? b = some o → s₁.heap.get? b = some o) ∧ wpAny W.M A (call f (first ++ vs)) (EPost W N K G env wr Ψ) NoE s₁) NoE s :=
  bL (Evs.wp R es σ _ G s hn h S) fun vs ps σ₁ G₁ s₁ g₁ S₁ r₁ h₁ => ⟨fun b o e => S₁.kin b o (S₁.base b o e), fE g₁ (hc vs ps σ₁ G₁ s₁ g₁ S₁ r₁ h₁)⟩
 cases es with
 | nil => exact evalArgs_nil3 ⟨fun b o e => S.kin b o (S.base b o e), hc [] [] σ G s (PH.Le.refl G) S Reps.nil h⟩
 | cons e r =>
  refine o0_2 (Bool.and_eq_true_iff.mp hn) fun h1 h2 => ?_
  have e1 := starEach_cons (env := env) (r := r) (e := e) (by simpa using h1)
  rw [e1] at fin ⊢
  exact Calls.evalArgs_plain fin
end Mine
end
section
open PySem PySem.W PyProof.Rows
namespace Mine
variable {W : Wd} {n : Nat} {env : Env} {wr : List Str} {σ : Sto} {N : Addr → Prop} {K G : PH} {s : Shared}
theorem bindL_out {k : Str → Option NameKind} : ∀ {b : List (Str × Value)} {m : Str → Option Value} {x : Str}, x ∉ b.map (·.1) → bindL k b m x = m x
 | [], _, _, _ => rfl
 | (y, v) :: r, m, x, h => by
  have h1 : x ≠ y := fun e => h (by simp [e])
  have h2 : x ∉ r.map (·.1) := fun e => h (by simp only [List.map_cons, List.mem_cons]; exact .inr e)
  unfold bindL; rw [bindL_out h2]; split
  ·simp [h1]
  ·rfl
theorem bindC_out {k : Str → Option NameKind} : ∀ {b : List (Str × Value)} {m : Str → Option Value} {x : Str}, x ∉ b.map (·.1) → bindC k b m x = m x
 | [], _, _, _ => rfl
 | (y, v) :: r, m, x, h => by
  have h1 : x ≠ y := fun e => h (by simp [e])
  have h2 : x ∉ r.map (·.1) := fun e => h (by simp only [List.map_cons, List.mem_cons]; exact .inr e)
  unfold bindC; rw [bindC_out h2]; split
  ·rfl
  ·simp [h1]
theorem bindL_in {k : Str → Option NameKind} : ∀ {b : List (Str × Value)} {m : Str → Option Value} {x : Str} {v : Value}, (b.map (·.1)).Nodup → (x, v) ∈ b → k x = some .local → bindL k b m x = some v
 | (y, u) :: r, m, x, v, hn, hm, hk => by
  refine o0_2 (List.nodup_cons.mp hn) fun h1 h2 => ?_
  unfold bindL
  rcases List.mem_cons.mp hm with e | hm
  ·cases e; rw [bindL_out h1, if_pos hk]; simp
  ·exact bindL_in h2 hm hk
theorem bindC_in {k : Str → Option NameKind} : ∀ {b : List (Str × Value)} {m : Str → Option Value} {x : Str} {v : Value}, (b.map (·.1)).Nodup → (x, v) ∈ b → k x ≠ some .local → bindC k b m x = some v
 | [], m, x, v, hn, hm, hk => absurd hm List.not_mem_nil
 | (y, u) :: r, m, x, v, hn, hm, hk => by
  refine o0_2 (List.nodup_cons.mp hn) fun h1 h2 => ?_
  unfold bindC
  rcases List.mem_cons.mp hm with e | hm
  ·cases e; rw [bindC_out h1, if_neg hk]; simp
  ·exact bindC_in h2 hm hk
def cellNames (sc : Scope) : List Str := (sc.names.filter fun x => x.2 == .cell).map (·.1)
theorem cellsFrom_has : ∀ (names : List (Str × NameKind)) (n : Nat) (acc : List (Str × Addr)) (x : Str), ((acc.lookup x).isSome = true ∨ (x, NameKind.cell) ∈ names) → ((cellsFrom n names acc).lookup x).isSome = true
 | [], _, acc, x, h => by rcases h with h | h; exact h; cases h
 | (y, k) :: r, n, acc, x, h => by
  unfold cellsFrom
  split
  ·rename_i hk
   refine cellsFrom_has r _ _ x ?_
   rcases h with h | h
   ·left; rw [List.lookup_cons]; split
    ·rfl
    ·exact h
   ·rcases List.mem_cons.mp h with e | h
    ·cases e; left; simp
    ·exact .inr h
  ·rename_i hk
   refine cellsFrom_has r _ _ x ?_
   rcases h with h | h
   ·exact .inl h
   ·rcases List.mem_cons.mp h with e | h
    ·cases e; simp at hk
    ·exact .inr h
theorem lookup_zip : ∀ {xs : List Str} {ps : List PV} {vs : List Value} {x : Str} {sv : SV}, xs.length = ps.length → Reps W G ps vs → (xs.zip (ps.map SV.fz)).lookup x = some sv →
  ∃ p v, sv = .fz p ∧ Rep W G p v ∧ (x, v) ∈ xs.zip vs ∧ x ∈ xs
 | [], _, _, _, _, _, _, h => by simp at h
 | y :: xs, [], _, _, _, hl, _, _ => by simp at hl
 | y :: xs, p :: ps, vs, x, sv, hl, hr, h => by
  refine o2_3 hr fun v r zc h1 h2 => ?_; clear hr; obtain rfl := zc
  simp only [List.map_cons, List.zip_cons_cons, List.lookup_cons] at h
  cases hb : x == y with
  | true =>
    rw [hb] at h; cases h; have e : x = y := by simpa using hb
    subst e; exact (i2_4 p v rfl h1 (by simp) (by simp))
  | false =>
   rw [hb] at h
   refine o2_4 (lookup_zip (by simpa using hl) h2 h) fun p' v' a b c d => ?_
   exact (i2_4 p' v' a b (by simp only [List.zip_cons_cons, List.mem_cons]; exact .inr c) (by simp [d]))
def retIs (Ψ : PV → Prop) : PF → Sto → Prop := fun f _ => match f with
 | .ret p => Ψ p
 | .next => Ψ .none
 | _ => False
theorem Room.deeper {A : Around} (R : Room A (n + 1)) (e : Env) : Room (A.deeper e) n :=
 ⟨R.handled, by show A.depth + 1 + n ≤ 900; have := R.depth; omega, by show A.units + 3 + 20 * n ≤ 9000; have := R.units; exact Om.dpt (by assumption) (by decide)⟩
theorem Room.le {A : Around} {k : Nat} (R : Room A n) (h : k ≤ n) : Room A k := ⟨R.handled, by have := R.depth; omega, by have := R.units; omega⟩
theorem Room.in1 {A : Around} (R : Room A (n + 1)) : Room A.in1 n := ⟨R.handled, by show A.depth + n ≤ 900; have := R.depth; exact Nat.le_of_succ_le (by assumption), by show A.units + 1 + 20 * n ≤ 9000; have := R.units; exact Om.dpt (by assumption) (by decide)⟩
abbrev envF (qual : Str) (scope : Scope) (L f : Addr) (cd : Value) : Env := envX qual scope L f cd (cellsFrom (L + 1) scope.names [])
def Wd.mask (W : Wd) (h : Heap) : PH := fun b => if b = W.P then none else h.get? b
theorem Wd.mask_of {h : Heap} {b : Addr} {o : Obj} (n : b ≠ W.P) (e : h.get? b = some o) : W.mask h b = some o := (if_neg n).trans e
theorem Wd.of_mask {h : Heap} {b : Addr} {o : Obj} (e : W.mask h b = some o) : h.get? b = some o := by
 unfold Wd.mask at e; split at e
 ·cases e
 ·exact e
theorem Wd.mask_none {h : Heap} {b : Addr} (e : h.get? b = none) : W.mask h b = none := by
 unfold Wd.mask; split
 ·rfl
 ·exact e
theorem CallP.fn {f : Addr} {name qual : Str} {params : Arguments} {body : List Stmt} {scope : Scope} {dV kV doc pm cdv ct : Value} {an : Option Addr} {o : Obj} {xs : List Str} {ps : List PV} {Ψ : PV → Prop}
  (ho : W.h₀.get? f = some o) (hd : o.data = .func (fnOf name qual params body scope dV kV doc pm an cdv ct)) (hcd : W.h₀.CodeRec cdv qual)
  (hb : ∀ vals : List Value, vals.length = ps.length → bindArgs (fnOf name qual params body scope dV kV doc pm an cdv ct) ⟨vals, []⟩ = pure (xs.zip vals))
  (hlen : xs.length = ps.length) (hnd : xs.Nodup)
  (hk : ∀ x ∈ xs, scope.names.lookup x = some .local ∨ scope.names.lookup x = some .cell)
  (hcells : ∀ x ∈ cellNames scope, scope.names.lookup x = some .cell)
  (h : ∀ L, Ex W n (envF qual scope L f cdv) (cellNames scope) body (xs.zip (ps.map .fz)) (retIs Ψ))
  (hco : scope.isCoroutine = false := by with_unfolding_all rfl) (hgen : scope.isGenerator = false := by with_unfolding_all rfl) (hkf : scope.kind = .function := by with_unfolding_all rfl) :
  CallP W (n + 1) (.val (.ref f)) ps Ψ := by
 intro A N G s fv vs R H rf rvs
 obtain rfl := rf
 refine wpAny_call ?_
 have memC : ∀ {x : Str}, scope.names.lookup x = some .cell → (x, NameKind.cell) ∈ scope.names := fun e => mem_of_lookup e
 refine codeAny_call_cells (vals := vs) (binds := xs.zip vs) (by have := R.depth; show A.depth < 1000; omega) (H.base _ _ ho) hd (W.T.nolimit.keeps H.base) (hcd.keeps H.base) rfl (hb vs rvs.length) rfl
  (fun x hx => ?_) (fun s₁ X => ?_) hco hgen hkf
 ·have := hk x.1 (List.of_mem_zip hx).1
  exact this.elim .inl fun e => .inr ⟨e, cellsFrom_has _ _ _ _ (.inr (memC e))⟩
 have henv : callEnvC (fnOf name qual params body scope dV kV doc pm an cdv ct) s.heap.objs.size f = envF qual scope s.heap.objs.size f cdv := rfl
 rw [henv] at X ⊢
 generalize hL : s.heap.objs.size = L at X ⊢
 have hnew : ∀ a, L ≤ a → s.heap.get? a = none := fun a ha => by
  cases e : s.heap.get? a with
  | none => rfl
  | some o => exact absurd (Heap.lt_size e) (Nat.not_lt.mpr (hL ▸ ha))
 have hnewG : ∀ a, L ≤ a → G a = none := fun a ha => by
  cases e : G a with
  | none => rfl
  | some o => have := H.gin _ _ e; rw [hnew a ha] at this; cases this
 have hndz : ((xs.zip vs).map (·.1)).Nodup := by
  rw [List.map_fst_zip (by rw [rvs.length, hlen]; exact Nat.le_refl _)]; exact hnd
 have ltP : (W.P : Nat) < L := by refine o2_2 H.ps fun o _ e _ => ?_; rw [← hL]; exact Heap.lt_size e
 have S : St W (fresh G s.heap) (W.mask s.heap) G (envF qual scope L f cdv) (cellNames scope) (xs.zip (ps.map .fz)) s₁ := by
  refine ⟨⟨hkf, rfl, fun x y c e e' => name_of_addr X.apart (mem_of_lookup e) (mem_of_lookup e'), rfl⟩, fun b o e => W.mask_of (W.neP e) (H.base b o e), fun b o e => X.toInCall.keep b o (W.of_mask e), fun a o e => X.toInCall.keep a o (H.gin a o e), fun a ha => ⟨?_, ha.2⟩, ⟨_, X.toInCall.ns⟩, ⟨W.mask_none (hnew _ (Nat.le_refl _)), hnewG _ (Nat.le_refl _)⟩, fun x hx => ?_, fun x sv hx => ?_, fun x y sx sy v hx hy ox oy _ _ => ?_, fun x c e => o1_2 (X.cell x c e) fun o ho _ => ⟨o, ho⟩, ?_, ?_, ⟨?_, if_pos rfl, fun q => ?_, fun x c e q => ?_, H.ps.keep fun o e => X.toInCall.keep _ o e⟩⟩
  ·refine o0_2 ha fun za _ => ?_; clear ha; refine o1_1 za fun o e => ?_; clear za; exact ⟨o, X.toInCall.keep a o e⟩
  ·have hc := hcells x hx
   refine o1_1 (Option.isSome_iff_exists.mp (cellsFrom_has scope.names (L + 1) [] x (.inr (memC hc)))) fun c e => ?_
   have hlt : L < c := X.above x c (mem_of_lookup e)
   exact (i2_5 c _ hc e (X.cell x c e) (W.mask_none (hnew c (Nat.le_of_lt hlt))) (hnewG c (Nat.le_of_lt hlt)))
  ·refine o2_4 (lookup_zip hlen rvs hx) fun p v zc h1 h2 h3 => ?_; obtain rfl := zc
   refine (i1_2 v ?_ h1)
   rcases hk x h3 with e | e
   ·exact .inl ⟨e, _, X.toInCall.ns, bindL_in hndz h2 e⟩
   ·refine o1_1 (Option.isSome_iff_exists.mp (cellsFrom_has scope.names (L + 1) [] x (.inr (memC e)))) fun c e' => ?_
    refine .inr ⟨.inl e, c, e', ?_⟩
    have := X.cell x c e'
    rwa [bindC_in hndz h2 (by show scope.names.lookup x ≠ _; rw [e]; decide)] at this
  ·refine o2_2 (lookup_zip hlen rvs hx) fun p v zc _ => ?_; obtain rfl := zc; cases ox
  ·refine o2_2 X.done fun h' tk zc _ => ?_; obtain rfl := zc; exact H.os
  ·refine o2_2 X.done fun h' tk zc _ => ?_; obtain rfl := zc; exact H.gens
  ·refine o2_2 H.ps fun o _ e _ => ?_; exact ⟨⟨o, e⟩, H.gP⟩
  ·have q : L = W.P := q
   rw [q] at ltP; exact absurd ltP (Nat.lt_irrefl _)
  ·have hlt : L < c := X.above x c (mem_of_lookup e)
   rw [← q] at ltP; exact absurd (Nat.lt_trans ltP hlt) (Nat.lt_irrefl _)
 refine wpAny_mono (h L _ _ _ _ _ (R.deeper _) S) (fun fl s' ⟨G', q, σ', g, S', r, hq⟩ => ?_) fun _ _ x => x.elim
 have fin : ∀ p v, Rep W G' p v → Ψ p → VPost W N G s Ψ v s' := fun p v r hp =>
  ⟨G', p, g, ⟨fun b o e => S'.kin b o (W.mask_of (W.neP e) (H.base b o e)), S'.gin, fun a ha => ?_, S'.os, S'.gens, H.pl, S'.sd.ps⟩, fun b o n e => S'.kin b o (W.mask_of n e), r, hp⟩
 ·cases q with
  | next => obtain rfl := r; exact fin .none _ (rfl) hq
  | brk => exact hq.elim
  | cont => exact hq.elim
  | ret p => refine o1_2 r ?_; clear r; intro v zb r; obtain rfl := zb; exact fin p v r hq
 ·exact S'.nok a (H.nok a ha)
theorem Ev.call {fx : Expr} {es : List Expr} {pos : Pos} {Ψ : PV → Sto → Prop}
  (h : Ev W n env wr fx σ fun pf σ₁ => ∃ f, pf = .val f ∧ KeepOk W f ∧ Evs W n env wr es σ₁ fun ps σ₂ => CallP W n (.val f) ps fun r => Ψ r σ₂)
  (hn : noStar es = true := by with_unfolding_all rfl) (he : eval (.Call fx es [] pos) env = (do callWith pos (← eval fx env) [] (backTo pos (starEach es env)) (backToKw pos (keywordEach [] env))) := by with_unfolding_all rfl) : Ev W n env wr (.Call fx es [] pos) σ Ψ :=
 fun A N K G s R S => by
  rw [he]
  refine wpAny_bind (bE (h A N K G s R S) fun v p σ₁ G₁ s₁ g₁ S₁ r₁ zz => o1_3 zz fun f e hk h₁ => ?_)
  subst e; obtain rfl := r₁
  refine fE g₁ (callWith_wp (first := []) R hk hn h₁ S₁ fun vs ps σ₂ G₂ s₂ g₂ S₂ r₂ h₂ => ?_)
  exact fV S₂ (PH.Le.refl _) (h₂ A _ G₂ s₂ v vs R S₂.hp (rfl) r₂) fun _ x => x
end Mine
end
section
open PySem PySem.W PyProof.Rows
namespace Mine
variable {W : Wd} {n : Nat} {env : Env} {wr : List Str} {σ : Sto} {N : Addr → Prop} {K G : PH} {s : Shared}
theorem St.swap {N₂ : Addr → Prop} {K₂ : PH} {s₂ : Shared} {ws : List Addr} (S : St W N K G env wr σ s)
  (hK : K₂.In s₂.heap) (hbase : ∀ b o, W.h₀.get? b = some o → K₂ b = some o) (hKn : ∀ b, b ∉ ws → K b = none → K₂ b = none)
  (hN : ∀ a, N₂ a → (∃ o, s₂.heap.get? a = some o) ∧ G a = none) (hNn : ∀ a, a ∉ ws → ¬ N a → ¬ N₂ a)
  (gw : ∀ b ∈ ws, G b = none) (lw : env.locals ∉ ws) (cw : ∀ x c, env.cells.lookup x = some c → c ∉ ws)
  (ow : ∀ x sv v b, σ.lookup x = some sv → sv.owned = true → Holds s.heap env x v → SRep W N K G env s.heap sv v → b ∈ ws → v ≠ .ref b)
  (keep : ∀ b o, b ∉ ws → s.heap.get? b = some o → s₂.heap.get? b = some o) (hos : s₂.os = s.os) (hgens : s₂.gens = s.gens) (hPN : N₂ W.P) (hPK : K₂ W.P = none) (hPw : W.P ∉ ws) : St W N₂ K₂ G env wr σ s₂ := by
 have hH : ∀ x v, Holds s.heap env x v → Holds s₂.heap env x v := fun x v h => by
  rcases h with ⟨a, m, b, c⟩ | ⟨a, c, d, e⟩
  ·exact .inl ⟨a, m, b.at' fun o e => keep _ o lw e, c⟩
  ·refine o1_2 e fun o h1 h2 => ?_; clear e
   exact .inr ⟨a, c, d, o, keep _ o (cw x c d) h1, h2⟩
 refine ⟨S.ok, hbase, hK, fun a o e => keep a o (fun h => by rw [gw a h] at e; cases e) (S.gin a o e), hN, o1_1 S.ns fun m h => ⟨m, h.at' fun o e => keep _ o lw e⟩,
  ⟨hKn _ lw S.lk.1, S.lk.2⟩, fun x hx => ?_, fun x sv hx => ?_, fun x y sx sy v hx hy ox oy hvx hvy => ?_, fun x c e => ?_, hos.trans S.os, hgens ▸ S.gens, ⟨hPN, hPK, S.sd.lP, S.sd.cP, S.sd.ps.keep fun o e => keep _ o hPw e⟩⟩
 ·refine o2_5 (S.cells x hx) fun c u h1 h2 ze h4 h5 => ?_; refine o1_2 ze fun o h3 h3' => ?_; clear ze
  exact (i2_5 c u h1 h2 ⟨o, keep _ o (cw x c h2) h3, h3'⟩ (hKn c (cw x c h2) h4) h5)
 ·refine o1_2 (S.vars x sv hx) fun v h1 h2 => ?_
  refine (i1_2 v (hH x v h1) ?_)
  have ow' := ow x sv v
  cases sv with
  | fz p => exact h2
  | ol c xs =>
   obtain ⟨a, o, vs, n, e, k1, k2, k3, k4, k5⟩ := h2
   have na : a ∉ ws := fun q => ow' a hx rfl h1 ⟨a, o, vs, n, e, k1, k2, k3, k4, k5⟩ q e
   exact ⟨a, o, vs, n, e, keep a o na k1, k2, k3, k4, ⟨⟨hKn a na k5.k, k5.g, hNn a na k5.n, k5.l⟩, k5.at_⟩⟩
  | od c es =>
   obtain ⟨a, o, kvs, e, k1, k2, k3, k4, k5⟩ := h2
   have na : a ∉ ws := fun q => ow' a hx rfl h1 ⟨a, o, kvs, e, k1, k2, k3, k4, k5⟩ q e
   exact ⟨a, o, kvs, e, keep a o na k1, k2, k3, k4, ⟨⟨hKn a na k5.k, k5.g, hNn a na k5.n, k5.l⟩, k5.at_⟩⟩
 ·refine o1_2 (S.vars x sx hx) fun vx h1 _ => ?_
  refine o1_2 (S.vars y sy hy) fun vy h2 _ => ?_
  have e1 := (hH _ _ h1).fn hvx; subst e1
  have e2 := (hH _ _ h2).fn hvy; subst e2
  exact S.apart x y sx sy _ hx hy ox oy h1 h2
 ·refine o1_1 (S.live x c e) fun o ho => ?_
  exact ⟨o, keep c o (cw x c e) ho⟩
def Kx (K : PH) (h : Heap) (ws : List Addr) : PH := fun b => if b ∈ ws then h.get? b else K b
def Nx (N : Addr → Prop) (ws : List Addr) : Addr → Prop := fun a => N a ∨ a ∈ ws
theorem Kx_in {h : Heap} {ws : List Addr} {b : Addr} (hb : b ∈ ws) : Kx K h ws b = h.get? b := if_pos hb
theorem Kx_out {h : Heap} {ws : List Addr} {b : Addr} (hb : b ∉ ws) : Kx K h ws b = K b := if_neg hb
structure LS (W : Wd) (N : Addr → Prop) (K G : PH) (env : Env) (wr : List Str) (σ : Sto) (ws : List Addr) (s : Shared) : Prop where
 st : St W (Nx N ws) (Kx K s.heap ws) G env wr σ s
 live : ∀ b ∈ ws, ∃ o, s.heap.get? b = some o
 n : ∀ a, N a → a ∉ ws
 k : ∀ b ∈ ws, K b = none
 c : ∀ x c, env.cells.lookup x = some c → c ∉ ws
 base : ∀ b o, W.h₀.get? b = some o → K b = some o
variable {ws : List Addr}
theorem LS.lw (L : LS W N K G env wr σ ws s) : env.locals ∉ ws := fun h => by
 have := L.st.lk.1; rw [Kx_in h] at this
 refine o1_1 (L.live _ h) fun o ho => ?_; rw [ho] at this; cases this
theorem LS.nP (L : LS W N K G env wr σ ws s) : W.P ∉ ws := fun h => by
 have := L.st.sd.kP; rw [Kx_in h] at this
 refine o2_2 L.st.sd.ps fun o _ e _ => ?_; rw [e] at this; cases this
theorem LS.plP (L : LS W N K G env wr σ ws s) : N W.P := L.st.sd.pl.elim id fun h => absurd h L.nP
theorem LS.kP (L : LS W N K G env wr σ ws s) : K W.P = none := by have := L.st.sd.kP; rwa [Kx_out L.nP] at this
theorem LS.gw (L : LS W N K G env wr σ ws s) : ∀ b ∈ ws, G b = none := fun b hb => (L.st.nok b (.inr hb)).2
theorem LS.ow (L : LS W N K G env wr σ ws s) : ∀ x sv v b, σ.lookup x = some sv → sv.owned = true → Holds s.heap env x v → SRep W (Nx N ws) (Kx K s.heap ws) G env s.heap sv v → b ∈ ws → v ≠ .ref b := fun x sv v b _ ho _ h hb q => by
 cases sv with
 | fz p => cases ho
 | ol c xs => obtain ⟨a, o, vs, n, e, k1, k2, k3, k4, k5⟩ := h; rw [e] at q; cases q; exact k5.n (.inr hb)
 | od c es => obtain ⟨a, o, kvs, e, k1, k2, k3, k4, k5⟩ := h; rw [e] at q; cases q; exact k5.n (.inr hb)
theorem LS.baseX (L : LS W N K G env wr σ ws s) (h : Heap) : ∀ b o, W.h₀.get? b = some o → Kx K h ws b = some o := fun b o e => by
 have hb : b ∉ ws := fun hb => by have := L.base b o e; rw [L.k b hb] at this; cases this
 rw [Kx_out hb]; exact L.base b o e
theorem LS.keepK (L : LS W N K G env wr σ ws s) {b : Addr} {o : Obj} (e : K b = some o) : b ∉ ws ∧ s.heap.get? b = some o := by
 have hb : b ∉ ws := fun hb => by rw [L.k b hb] at e; cases e
 exact ⟨hb, L.st.kin b o (by rw [Kx_out hb]; exact e)⟩
theorem LS.step {h' : Heap} {tk : Nat} (L : LS W N K G env wr σ ws s) (keep : ∀ b o, b ∉ ws → s.heap.get? b = some o → h'.get? b = some o) (lv : ∀ b ∈ ws, ∃ o, h'.get? b = some o) :
  LS W N K G env wr σ ws { s with heap := h', toks := tk } :=
 ⟨L.st.swap (ws := ws) (fun b o e => by
   by_cases hb : b ∈ ws
   ·rwa [Kx_in hb] at e
   ·rw [Kx_out hb] at e; exact keep b o hb (L.keepK e).2) (L.baseX h') (fun b hb e => by rw [Kx_out hb] at e ⊢; exact e)
   (fun a ha => by
    by_cases hb : a ∈ ws
    ·exact ⟨lv a hb, L.gw a hb⟩
    ·refine o0_2 (L.st.nok a ha) fun za hg => ?_; refine o1_1 za fun o ho => ?_; clear za; exact ⟨⟨o, keep a o hb ho⟩, hg⟩) (fun _ _ h => h) L.gw L.lw L.c L.ow keep rfl rfl L.st.sd.pl (by rw [Kx_out L.nP]; exact L.kP) L.nP,
  lv, L.n, L.k, L.c, L.base⟩
theorem LS.off {h' : Heap} {tk : Nat} (L : LS W N K G env wr σ ws s) (keep : ∀ b o, b ∉ ws → s.heap.get? b = some o → h'.get? b = some o) :
  St W N K G env wr σ { s with heap := h', toks := tk } :=
 L.st.swap (ws := ws) (fun b o e => keep b o (L.keepK e).1 (L.keepK e).2) L.base (fun b hb e => by rwa [Kx_out hb] at e)
  (fun a ha => by refine o0_2 (L.st.nok a (.inl ha)) fun za hg => ?_; refine o1_1 za fun o ho => ?_; clear za; exact ⟨⟨o, keep a o (L.n a ha) ho⟩, hg⟩) (fun _ _ h => fun q => h (.inl q)) L.gw L.lw L.c L.ow keep rfl rfl L.plP L.kP L.nP
theorem LS.body {σ' : Sto} {G' : PH} {s' : Shared} (L : LS W N K G env wr σ ws s) (S : St W (Nx N ws) (Kx K s.heap ws) G' env wr σ' s') : LS W N K G' env wr σ' ws s' := by
 have same : ∀ b ∈ ws, s'.heap.get? b = s.heap.get? b := fun b hb => by
  refine o1_1 (L.live b hb) fun o ho => ?_
  rw [ho]; exact S.kin b o (by rw [Kx_in hb]; exact ho)
 have e : Kx K s'.heap ws = Kx K s.heap ws := by
  funext b
  by_cases hb : b ∈ ws
  ·rw [Kx_in hb, Kx_in hb, same b hb]
  ·rw [Kx_out hb, Kx_out hb]
 exact ⟨e ▸ S, fun b hb => by rw [same b hb]; exact L.live b hb, L.n, L.k, L.c, L.base⟩
theorem LS.bodySame {σ' : Sto} {G' : PH} {s' : Shared} (L : LS W N K G env wr σ ws s) (S : St W (Nx N ws) (Kx K s.heap ws) G' env wr σ' s') : ∀ b ∈ ws, ∀ o, s.heap.get? b = some o → s'.heap.get? b = some o := fun b hb o e =>
 S.kin b o (by rw [Kx_in hb]; exact e)
theorem LS.start {h' : Heap} {tk : Nat} (S : St W N K G env wr σ s) (k : HLeF s.heap h') (new : ∀ b ∈ ws, s.heap.get? b = none) (lv : ∀ b ∈ ws, ∃ o, h'.get? b = some o) :
  LS W N K G env wr σ ws { s with heap := h', toks := tk } := by
 have kn : ∀ b ∈ ws, K b = none := fun b hb => by
  cases e : K b with
  | none => rfl
  | some o => have := S.kin b o e; rw [new b hb] at this; cases this
 have gn : ∀ b ∈ ws, G b = none := fun b hb => by
  cases e : G b with
  | none => rfl
  | some o => have := S.gin b o e; rw [new b hb] at this; cases this
 have nn : ∀ a, N a → a ∉ ws := fun a ha hb => by refine o0_2 (S.nok a ha) fun za _ => ?_; refine o1_1 za fun o ho => ?_; clear za; rw [new a hb] at ho; cases ho
 have pn : W.P ∉ ws := nn _ S.sd.pl
 have cn : ∀ x c, env.cells.lookup x = some c → c ∉ ws := fun x c e hb => by refine o1_1 (S.live x c e) fun o ho => ?_; rw [new c hb] at ho; cases ho
 refine ⟨S.swap (ws := ws) (fun b o e => ?_) (fun b o e => ?_) (fun b hb e => by rw [Kx_out hb]; exact e) (fun a ha => ?_) (fun a hb h q => q.elim h hb) gn (fun hb => ?_) cn (fun x sv v b hx ho _ h hb q => ?_) (fun b o _ e => k b o e) rfl rfl (.inl S.sd.pl) (by rw [Kx_out pn]; exact S.sd.kP) pn,
  lv, nn, kn, cn, S.base⟩
 ·by_cases hb : b ∈ ws
  ·rwa [Kx_in hb] at e
  ·rw [Kx_out hb] at e; exact k b o (S.kin b o e)
 ·have hb : b ∉ ws := fun hb => by have := S.base b o e; rw [kn b hb] at this; cases this
  rw [Kx_out hb]; exact S.base b o e
 ·rcases ha with ha | hb
  ·refine o0_2 (S.nok a ha) fun za hg => ?_; refine o1_1 za fun o ho => ?_; clear za; exact ⟨⟨o, k a o ho⟩, hg⟩
  ·exact ⟨lv a hb, gn a hb⟩
 ·refine o4_2 S.ns fun m o es ep h _ => ?_; rw [new _ hb] at h; cases h
 ·cases sv with
  | fz p => cases ho
  | ol c xs => obtain ⟨a, o, vs, n, e, k1, _⟩ := h; rw [e] at q; cases q; rw [new _ hb] at k1; cases k1
  | od c es => obtain ⟨a, o, kvs, e, k1, _⟩ := h; rw [e] at q; cases q; rw [new _ hb] at k1; cases k1
def Asgs (W : Wd) (n : Nat) (env : Env) (wr : List Str) : List Expr → List PV → Sto → (Sto → Prop) → Prop
 | [], [], σ, Φ => Φ σ
 | e :: es, q :: qs, σ, Φ => Asg W n env wr e q σ fun σ₁ => Asgs W n env wr es qs σ₁ Φ
 | _, _, _, _ => False
theorem assignEach_cons {e : Expr} {r : List Expr} (h : isStarred e = false) : assignEach (e :: r) env = (false, assign e env) :: assignEach r env := by
 cases e <;> first | rfl | cases h
theorem assignEach_ok : ∀ {es : List Expr}, noStar es = true → (assignEach es env).length = es.length ∧ (assignEach es env).findIdx? (·.1) = none
 | [], _ => ⟨rfl, rfl⟩
 | e :: es, h => by
  refine o0_2 (Bool.and_eq_true_iff.mp h) fun h1 h2 => ?_
  refine o0_2 (assignEach_ok (es := es) h2) fun a b => ?_
  rw [assignEach_cons (by simpa using h1)]
  exact ⟨by simp [a], by simp [List.findIdx?_cons, b]⟩
theorem Asgs.wp {A : Around} (R : Room A n) : ∀ (es : List Expr) (qs : List PV) (vs : List Value) (σ : Sto) (Φ : Sto → Prop) (G : PH) (s : Shared), noStar es = true → Asgs W n env wr es qs σ Φ → St W N K G env wr σ s → Reps W G qs vs →
  wpAny W.M A (assignInOrder ((assignEach es env).map (·.2)) vs) (UPost W N K G env wr Φ) NoE s
 | [], [], vs, σ, Φ, G, s, _, h, S, r => by
  obtain rfl := r
  exact wpAny_pure ⟨G, σ, PH.Le.refl G, S, h⟩
 | e :: es, q :: qs, vs, σ, Φ, G, s, hn, h, S, r => by
  refine o2_3 r fun v r' zc r1 r2 => ?_; clear r; obtain rfl := zc
  refine o0_2 (Bool.and_eq_true_iff.mp hn) fun h1 h2 => ?_
  rw [assignEach_cons (by simpa using h1)]
  show wpAny W.M A (do holding r' (assign e env v); assignInOrder ((assignEach es env).map (·.2)) r') _ _ s
  refine wpAny_bind (wpAny_holding (bU (h A N K G s v R S r1) fun _ σ₁ G₁ s₁ g₁ S₁ h₁ => ?_))
  exact fU g₁ (Asgs.wp R es qs r' σ₁ Φ G₁ s₁ h2 h₁ S₁ (Reps.mono g₁ _ _ r2))
 | [], _ :: _, _, _, _, _, _, _, h, _, _ => h.elim
 | _ :: _, [], _, _, _, _, _, _, h, _, _ => h.elim
theorem Asgs.tup {A : Around} {T : Addr} {vals : Array Value} {es : List Expr} {k : Nat} {pos : Pos} {qs : List PV} {Φ : Sto → Prop} (R : Room A n) (S : St W N K G env wr σ s) (ht : s.heap.IsTuple T vals) (r : Reps W G qs vals.toList)
  (hn : noStar es = true) (hl : qs.length = es.length) (h : Asgs W n env wr es qs σ Φ) : wpAny W.M A (assign (.Tuple es k pos) env (.ref T)) (UPost W N K G env wr Φ) NoE s := by
 refine o0_2 (assignEach_ok (env := env) hn) fun a b => ?_
 refine wpAny_assign_Tuple R.handled ht (by rw [a, ← hl, ← r.length]; simp) b fun h' hs' => ?_
 have k : HLeF s.heap h' := fun b o e => hs' b o (Nat.ne_of_lt (Heap.lt_size e)) e
 have S' : St W N K G env wr σ { s with heap := h' } := S.grow ⟨fun b o e => k b o (S.kin b o (S.base b o e)), S.gin.leF k, fun a zz => o0_2 zz fun zz hg => o1_1 zz fun o ho => ⟨⟨o, k a o ho⟩, hg⟩, S.os, S.gens, S.hp.pl, S.sd.ps.keep fun o e => k _ o e⟩ (PH.Le.refl G) (HLe.full k)
 exact Asgs.wp R es qs _ σ Φ G _ hn h S' r
theorem Asg.tup {es : List Expr} {k : Nat} {pos : Pos} {qs : List PV} {Φ : Sto → Prop} (hl : qs.length = es.length) (h : Asgs W n env wr es qs σ Φ) (hn : noStar es = true := by with_unfolding_all rfl) : Asg W n env wr (.Tuple es k pos) (.tuple qs) σ Φ :=
 fun A N K G s v R S r => by
  refine o4_5 r fun a o vs n ze r1 r2 r3 r4 => ?_; clear r; obtain rfl := ze
  exact Asgs.tup R S ⟨o, S.gin _ _ r1, r2, n, r3⟩ r4 hn hl h
def forL (W : Wd) (n : Nat) (env : Env) (wr : List Str) (tgt : Expr) (body : List Stmt) : List PV → Sto → (PF → Sto → Prop) → Prop
 | [], σ, Φ => Φ .next σ
 | p :: ps, σ, Φ => Asg W n env wr tgt p σ fun σ₁ => Ex W n env wr body σ₁ fun f σ₂ => match f with
  | .next => forL W n env wr tgt body ps σ₂ Φ
  | .cont => forL W n env wr tgt body ps σ₂ Φ
  | .brk => Φ .next σ₂
  | .ret v => Φ (.ret v) σ₂
structure Iter (W : Wd) (A : Around) (I : Addr) (fp ws : List Addr) (G : PH) (items : List PV) (Stt : Nat → Heap → Prop) : Prop where
 walks : Walks W.prog W.w A I fp ws items.length (fun i u => ∃ q, items[i]? = some q ∧ Rep W G q u) Stt
 live : ∀ i h, Stt i h → ∀ b ∈ ws, ∃ o, h.get? b = some o
 fp : ∀ b ∈ fp, b ∈ ws ∨ ∃ o, G b = some o
structure IterT (W : Wd) (A : Around) (I : Addr) (fp ws : List Addr) (G : PH) (items : List (List PV)) (Stt : Nat → Heap → Prop) (Mid : Nat → Addr → Heap → Prop) : Prop where
 walks : WalksU W.prog W.w A I fp ws items.length (fun i vals => ∃ qs, items[i]? = some qs ∧ Reps W G qs vals.toList) Stt Mid
 live : ∀ i h, Stt i h → ∀ b ∈ ws, ∃ o, h.get? b = some o
 liveM : ∀ i T h, Mid i T h → ∀ b ∈ ws, ∃ o, h.get? b = some o
 fp : ∀ b ∈ fp, b ∈ ws ∨ ∃ o, G b = some o
def IterP (W : Wd) (n : Nat) (p : PV) (items : List PV) : Prop :=
 ∀ A N G s v (Q : Value → Shared → Prop), Room A n → Hp W N G s → Rep W G p v →
  (∀ I fp ws Stt h' tk, Iter W A I fp ws G items Stt → Stt 0 h' → HLeF s.heap h' → (∀ b ∈ ws, s.heap.get? b = none) → Q (.ref I) { s with heap := h', toks := tk }) → wpAny W.M A (pyIter v) Q NoE s
def IterTP (W : Wd) (n : Nat) (p : PV) (items : List (List PV)) : Prop :=
 ∀ A N G s v (Q : Value → Shared → Prop), Room A n → Hp W N G s → Rep W G p v →
  (∀ I fp ws Stt Mid h' tk, IterT W A I fp ws G items Stt Mid → Stt 0 h' → HLeF s.heap h' → (∀ b ∈ ws, s.heap.get? b = none) → Q (.ref I) { s with heap := h', toks := tk }) → wpAny W.M A (pyIter v) Q NoE s
theorem toE {α : Type} {M : Model} {A : Around} {t : Sem α} {Q : α → Shared → Prop} {E : Value → Shared → Prop} (h : wpAny M A t Q NoE s) : wpAny M A t Q E s := wpAny_mono h (fun _ _ x => x) fun _ _ x => x.elim
theorem drop_item {items : List PV} {i : Nat} {q : PV} (h : items[i]? = some q) : items.drop i = q :: items.drop (i + 1) := by
 refine o1_1 (List.getElem?_eq_some_iff.mp h) fun hi e => ?_
 rw [List.drop_eq_getElem_cons hi, e]
theorem Iter.keep {A : Around} {I : Addr} {fp : List Addr} {G₀ G' : PH} {items : List PV} {Stt : Nat → Heap → Prop} {h h' : Heap} {i : Nat} (X : Iter W A I fp ws G₀ items Stt) (g : G₀.Le G') (st : Stt i h) (hin : G₀.In h) (hin' : G'.In h')
  (same : ∀ b ∈ ws, ∀ o, h.get? b = some o → h'.get? b = some o) : Stt i h' :=
 X.walks.frame i h h' st fun b hb o e => by
  rcases X.fp b hb with hw | ⟨o', ho'⟩
  ·exact same b hw o e
  ·have := hin _ _ ho'; rw [e] at this; cases this
   exact hin' _ _ (g _ _ ho')
theorem IterT.keep {A : Around} {I : Addr} {fp : List Addr} {G₀ G' : PH} {items : List (List PV)} {Stt : Nat → Heap → Prop} {Mid : Nat → Addr → Heap → Prop} {h h' : Heap} {i : Nat} (X : IterT W A I fp ws G₀ items Stt Mid) (g : G₀.Le G') (st : Stt i h) (hin : G₀.In h) (hin' : G'.In h')
  (same : ∀ b ∈ ws, ∀ o, h.get? b = some o → h'.get? b = some o) : Stt i h' :=
 X.walks.frame i h h' st fun b hb o e => by
  rcases X.fp b hb with hw | ⟨o', ho'⟩
  ·exact same b hw o e
  ·have := hin _ _ ho'; rw [e] at this; cases this
   exact hin' _ _ (g _ _ ho')
theorem turnEnd {A : Around} {G₀ G' : PH} {q : PF} {f : Flow} {σ' : Sto} {s₃ : Shared} {Φ : PF → Sto → Prop} {X : PF → Sto → Prop} {P : Prop} (g : G₀.Le G') (L : LS W N K G' env wr σ' ws s₃) (r : RepF W G' q f)
  (h : match q with | .next => X .next σ' | .cont => X .cont σ' | .brk => Φ .next σ' | .ret v => Φ (.ret v) σ')
  (k : (q = .next ∨ q = .cont) → X q σ' → P) :
  match f with
   | .next | .cont => P
   | .brk => FPost W N K G₀ env wr Φ .next s₃
   | .ret v => FPost W N K G₀ env wr Φ (.ret v) s₃ := by
 have S := L.off (h' := s₃.heap) (tk := s₃.toks) (fun _ _ _ e => e)
 cases q with
 | next => obtain rfl := r; exact k (.inl rfl) h
 | cont => obtain rfl := r; exact k (.inr rfl) h
 | brk => obtain rfl := r; exact ⟨G', .next, σ', g, S, rfl, h⟩
 | ret v => obtain ⟨u, rfl, r⟩ := r; exact ⟨G', .ret v, σ', g, S, (Exists.intro u ⟨rfl, r⟩), h⟩
theorem forLoop_wp {A : Around} {x : Str} {px : Pos} {body : List Stmt} {I : Addr} {fp : List Addr} {G₀ : PH} {items : List PV} {Stt : Nat → Heap → Prop} {Φ : PF → Sto → Prop} (R : Room A n) (X : Iter W A I fp ws G items Stt)
  (g₀ : G₀.Le G) (L : LS W N K G env wr σ ws s) (st : Stt 0 s.heap) (h : forL W n env wr (.Name x px) body items σ Φ) {RR : Result → Shared → Prop} (hR : ∀ f s', FPost W N K G₀ env wr Φ f s' → RR (.ok f) s') :
  codeAny W.M A (.forLoop (.Name x px) (.ref I) body [] env) RR s := by
 refine codeAny_forLoop (fun k s => ∃ i G' σ', k = items.length - i ∧ i ≤ items.length ∧ G.Le G' ∧ LS W N K G' env wr σ' ws s ∧ Stt i s.heap ∧ forL W n env wr (.Name x px) body (items.drop i) σ' Φ) (fun k s hI => ?_) items.length
  (i3_6 0 G σ (by simp) (Nat.zero_le _) (PH.Le.refl G) L st (by simpa using h))
 refine o3_6 hI fun i G' σ' zd hi g L st h => ?_; clear hI; obtain rfl := zd
 by_cases hlt : i < items.length
 ·refine X.walks.item i s _ _ hlt st fun v h' tk zz st' keep => o1_2 zz fun q hq hr => ?_
  dsimp only
  rw [drop_item hq] at h
  have L' := L.step (tk := tk) keep (X.live _ _ st')
  refine toE (bU (h A _ _ G' _ v R L'.st (Rep.mono g _ _ hr)) fun _ σ₁ G₁ s₁ g₁ S₁ h₁ => ?_)
  have L₁ := L'.body S₁
  refine toE (bF (h₁ A _ _ G₁ s₁ R L₁.st) fun f q₂ σ₂ G₂ s₂ g₂ S₂ r₂ h₂ => ?_)
  have L₂ := L₁.body S₂
  have st₂ : Stt (i + 1) s₂.heap := X.keep ((g.trans g₁).trans g₂) st' (fun a o e => L'.st.gin a o (g a o e)) S₂.gin fun b hb o e => L₁.bodySame S₂ b hb o (L'.bodySame S₁ b hb o e)
  have fin := turnEnd (P := ∃ m, m < items.length - i ∧ ∃ i_1 G' σ', m = items.length - i_1 ∧ i_1 ≤ items.length ∧ G.Le G' ∧ LS W N K G' env wr σ' ws s₂ ∧ Stt i_1 s₂.heap ∧ forL W n env wr (.Name x px) body (items.drop i_1) σ' Φ)
   (X := fun _ σ' => forL W n env wr (.Name x px) body (items.drop (i + 1)) σ' Φ) (A := A) (((g₀.trans g).trans g₁).trans g₂) L₂ r₂ (by cases q₂ <;> exact h₂)
   (fun _ hx => (i1_2 (items.length - (i + 1)) (by exact Om.subLt (by assumption)) ⟨i + 1, G₂, σ₂, rfl, hlt, (g.trans g₁).trans g₂, L₂, st₂, hx⟩))
  cases f with
  | next => exact fin
  | cont => exact fin
  | brk => exact hR _ _ fin
  | ret v => exact hR _ _ fin
 ·have e : i = items.length := by exact Nat.le_antisymm (by assumption) (Nat.le_of_not_lt (by assumption))
  subst e
  refine X.walks.done s _ _ st fun h' tk keep => ?_
  dsimp only
  rw [List.drop_length] at h
  exact wpAny_execs_nil (hR _ _ ⟨G', .next, σ', g₀.trans g, L.off keep, rfl, h⟩)
theorem Ex1.for_ {x : Str} {px pos : Pos} {iter : Expr} {body : List Stmt} {Φ : PF → Sto → Prop}
  (h : Ev W n env wr iter σ fun p σ₁ => ∃ items, IterP W n p items ∧ forL W n env wr (.Name x px) body items σ₁ Φ)
  (hs : ∀ x, foldedSetIterable iter env x = pure x := by intro _; with_unfolding_all rfl) : Ex1 W n env wr (.For (.Name x px) iter body [] pos) σ Φ :=
 fun A N K G s R S => wpAny_For (hs := hs) (bE (h A N K G s R S) fun v p σ₁ G₁ s₁ g₁ S₁ r₁ zz =>
  o1_2 zz fun items hi h₁ => toE (hi A _ G₁ s₁ v _ R S₁.hp r₁ fun I fp ws Stt h' tk X st k new =>
   forLoop_wp (RR := fun r s' => match r with | .ok f => FPost W N K G env wr Φ f s' | .error e => cameBackBy W.M A env NoE e s') R X g₁ (LS.start S₁ k new (X.live _ _ st)) st h₁ fun _ _ x => x))
theorem codeAny_forLoopT {prog : Program} {w : World} {A : Around} {R : Result → Shared → Prop} {elts : List Expr} {k : Nat} {tp : Pos} {I : Addr} {body orelse env} (J : Nat → Shared → Prop)
  (turn : ∀ n s, J n s → wpAny (model prog w) A (pyNext (.ref I)) (fun r s₁ => match r with
   | none => wpAny (model prog w) A (execs orelse env) (fun f s₃ => R (.ok f) s₃) (notedBy (model prog w) A env fun e s' => R (.error e) s') s₁
   | some v => wpAny (model prog w) A (letOwnedTupleGo (.Tuple elts k tp) (.ref I) v) (fun _ s₂ => wpAny (model prog w) A (assign (.Tuple elts k tp) env v) (fun _ s₂ => wpAny (model prog w) A (execs body env) (fun f s₃ => match f with
     | .next | .cont => ∃ m, m < n ∧ J m s₃
     | .brk => R (.ok .next) s₃
     | .ret v => R (.ok (.ret v)) s₃) (notedBy (model prog w) A env fun e s' => R (.error e) s') s₂) (notedBy (model prog w) A env fun e s' => R (.error e) s') s₂) (notedBy (model prog w) A env fun e s' => R (.error e) s') s₁) (notedBy (model prog w) A env fun e s' => R (.error e) s') s)
  (n : Nat) (h : J n s) : codeAny (model prog w) A (.forLoop (.Tuple elts k tp) (.ref I) body orelse env) R s := by
 refine codeAny_loop' rfl J (fun n s hI => ?_) n h
 show wpAny _ _ ((forTurn (.Tuple elts k tp) (.ref I) body orelse env).onRaise (fun x => do noteFrame x env; theTreesLotGoes x)) _ _ s
 refine wpAny_noted ?_
 simp only [forTurn]
 refine wpAny_bind (wpAny_standAt (wpAny_bind (wpAny_onRaise (wpAny_mono (turn n s hI) (fun r s₁ h₁ => ?_) fun _ _ h' => wpAny_standAt h'))))
 cases r with
 | none => exact wpAny_pure (.inr ⟨rfl, codeAny_block h₁⟩)
 | some v =>
  refine wpAny_bind (wpAny_mono h₁ (fun _ s₂ h₂ => wpAny_bind (wpAny_mono h₂ (fun _ s₂ h₂ => wpAny_bind (wpAny_mono h₂ (fun f s₃ h₃ => ?_) fun _ _ h' => h')) fun _ _ h' => h')) fun _ _ h' => h')
  cases f with
  | next => exact wpAny_pure (.inl ⟨rfl, h₃⟩)
  | cont => exact wpAny_pure (.inl ⟨rfl, h₃⟩)
  | brk => exact wpAny_pure h₃
  | ret v => exact wpAny_pure h₃
def forT (W : Wd) (n : Nat) (env : Env) (wr : List Str) (elts : List Expr) (body : List Stmt) : List (List PV) → Sto → (PF → Sto → Prop) → Prop
 | [], σ, Φ => Φ .next σ
 | p :: ps, σ, Φ => p.length = elts.length ∧ Asgs W n env wr elts p σ fun σ₁ => Ex W n env wr body σ₁ fun f σ₂ => match f with
  | .next => forT W n env wr elts body ps σ₂ Φ
  | .cont => forT W n env wr elts body ps σ₂ Φ
  | .brk => Φ .next σ₂
  | .ret v => Φ (.ret v) σ₂
theorem forLoopT_wp {A : Around} {elts : List Expr} {k₀ : Nat} {tp : Pos} {body : List Stmt} {I : Addr} {fp : List Addr} {G₀ : PH} {items : List (List PV)} {Stt : Nat → Heap → Prop} {Mid : Nat → Addr → Heap → Prop} {Φ : PF → Sto → Prop} (R : Room A n) (X : IterT W A I fp ws G items Stt Mid)
  (g₀ : G₀.Le G) (L : LS W N K G env wr σ ws s) (st : Stt 0 s.heap) (hn : noStar elts = true) (h : forT W n env wr elts body items σ Φ) {RR : Result → Shared → Prop} (hR : ∀ f s', FPost W N K G₀ env wr Φ f s' → RR (.ok f) s') :
  codeAny W.M A (.forLoop (.Tuple elts k₀ tp) (.ref I) body [] env) RR s := by
 refine codeAny_forLoopT (fun k s => ∃ i G' σ', k = items.length - i ∧ i ≤ items.length ∧ G.Le G' ∧ LS W N K G' env wr σ' ws s ∧ Stt i s.heap ∧ forT W n env wr elts body (items.drop i) σ' Φ) (fun k s hI => ?_) items.length
  (i3_6 0 G σ (by simp) (Nat.zero_le _) (PH.Le.refl G) L st (by simpa using h))
 refine o3_6 hI fun i G' σ' zd hi g L st h => ?_; clear hI; obtain rfl := zd
 by_cases hlt : i < items.length
 ·refine X.walks.item i s _ _ hlt st fun T vals h' tk zz hT mid keep => o1_2 zz fun q hq hr => ?_
  dsimp only
  have hd : items.drop i = q :: items.drop (i + 1) := by
   refine o1_1 (List.getElem?_eq_some_iff.mp hq) fun hi e => ?_
   rw [List.drop_eq_getElem_cons hi, e]
  rw [hd] at h
  have L' := L.step (tk := tk) keep (X.liveM _ _ _ mid)
  refine X.walks.go _ _ _ i T _ _ _ mid fun h'' st' keep' => ?_
  have L'' := L'.step (h' := h'') (tk := tk) keep' (X.live _ _ st')
  have hT' : h''.IsTuple T vals := o1_2 hT fun o ho r => ⟨o, keep' T o (X.walks.apart i T _ mid) ho, r⟩
  refine toE (bU (Asgs.tup R L''.st hT' (Reps.mono g _ _ hr) hn h.1 h.2) fun _ σ₁ G₁ s₁ g₁ S₁ h₁ => ?_)
  have L₁ := L''.body S₁
  refine toE (bF (h₁ A _ _ G₁ s₁ R L₁.st) fun f q₂ σ₂ G₂ s₂ g₂ S₂ r₂ h₂ => ?_)
  have L₂ := L₁.body S₂
  have st₂ : Stt (i + 1) s₂.heap := X.keep ((g.trans g₁).trans g₂) st' (fun a o e => L''.st.gin a o (g a o e)) S₂.gin fun b hb o e => L₁.bodySame S₂ b hb o (L''.bodySame S₁ b hb o e)
  have fin := turnEnd (P := ∃ m, m < items.length - i ∧ ∃ i_1 G' σ', m = items.length - i_1 ∧ i_1 ≤ items.length ∧ G.Le G' ∧ LS W N K G' env wr σ' ws s₂ ∧ Stt i_1 s₂.heap ∧ forT W n env wr elts body (items.drop i_1) σ' Φ)
   (X := fun _ σ' => forT W n env wr elts body (items.drop (i + 1)) σ' Φ) (A := A) (((g₀.trans g).trans g₁).trans g₂) L₂ r₂ (by cases q₂ <;> exact h₂)
   (fun _ hx => (i1_2 (items.length - (i + 1)) (by exact Om.subLt (by assumption)) ⟨i + 1, G₂, σ₂, rfl, hlt, (g.trans g₁).trans g₂, L₂, st₂, hx⟩))
  cases f with
  | next => exact fin
  | cont => exact fin
  | brk => exact hR _ _ fin
  | ret v => exact hR _ _ fin
 ·have e : i = items.length := by exact Nat.le_antisymm (by assumption) (Nat.le_of_not_lt (by assumption))
  subst e
  refine X.walks.done s _ _ st fun h' tk keep => ?_
  dsimp only
  rw [List.drop_length] at h
  exact wpAny_execs_nil (hR _ _ ⟨G', .next, σ', g₀.trans g, L.off keep, rfl, h⟩)
theorem Ex1.forT_ {elts : List Expr} {k₀ : Nat} {tp pos : Pos} {iter : Expr} {body : List Stmt} {Φ : PF → Sto → Prop}
  (h : Ev W n env wr iter σ fun p σ₁ => ∃ items, IterTP W n p items ∧ forT W n env wr elts body items σ₁ Φ)
  (hs : ∀ x, foldedSetIterable iter env x = pure x := by intro _; with_unfolding_all rfl) (hn : noStar elts = true := by with_unfolding_all rfl) : Ex1 W n env wr (.For (.Tuple elts k₀ tp) iter body [] pos) σ Φ :=
 fun A N K G s R S => wpAny_For (hs := hs) (bE (h A N K G s R S) fun v p σ₁ G₁ s₁ g₁ S₁ r₁ zz =>
  o1_2 zz fun items hi h₁ => toE (hi A _ G₁ s₁ v _ R S₁.hp r₁ fun I fp ws Stt Mid h' tk X st k new =>
   forLoopT_wp (RR := fun r s' => match r with | .ok f => FPost W N K G env wr Φ f s' | .error e => cameBackBy W.M A env NoE e s') R X g₁ (LS.start S₁ k new (X.live _ _ st)) st hn h₁ fun _ _ x => x))
end Mine
end
section
open PySem PySem.W PyProof.Rows
namespace Mine
variable {W : Wd} {n : Nat} {env : Env} {wr : List Str} {σ : Sto} {N : Addr → Prop} {K G : PH} {s : Shared} {ws : List Addr}
theorem Reps.get : ∀ {ps : List PV} {vs : List Value} {i : Nat} {v : Value}, Reps W G ps vs → vs[i]? = some v → ∃ p, ps[i]? = some p ∧ Rep W G p v
 | [], _, _, _, h, e => by obtain rfl := h; simp at e
 | p :: ps, _, 0, v, h, e => by
  refine o2_3 h fun u r zc h1 h2 => ?_; clear h; obtain rfl := zc
  simp at e; subst e; exact (i1_2 p rfl h1)
 | p :: ps, _, i + 1, v, h, e => by
  refine o2_3 h fun u r zc h1 h2 => ?_; clear h; obtain rfl := zc
  simp at e; refine o1_2 (Reps.get h2 e) fun q a b => ?_; exact (i1_2 q (by simpa using a) b)
theorem Reps.at : ∀ {ps : List PV} {vs : List Value} {i : Nat} {p : PV}, Reps W G ps vs → ps[i]? = some p → ∃ v, vs[i]? = some v ∧ Rep W G p v
 | [], _, _, _, h, e => by simp at e
 | q :: ps, _, 0, p, h, e => by
  refine o2_3 h fun u r zc h1 h2 => ?_; clear h; obtain rfl := zc
  simp at e; subst e; exact (i1_2 u rfl h1)
 | q :: ps, _, i + 1, p, h, e => by
  refine o2_3 h fun u r zc h1 h2 => ?_; clear h; obtain rfl := zc
  simp at e; refine o1_2 (Reps.at h2 e) fun v a b => ?_; exact (i1_2 v (by simpa using a) b)
theorem Hp.new (H : Hp W N G s) {a : Addr} {o : Obj} (e : G a = some o) : a ≠ s.heap.objs.size := Nat.ne_of_lt (Heap.lt_size (H.gin _ _ e))
theorem new_none (h : Heap) : h.get? h.objs.size = none := by
 cases e : h.get? h.objs.size with
 | none => rfl
 | some o => exact absurd (Heap.lt_size e) (Nat.lt_irrefl _)
inductive IPost (W : Wd) (A : Around) (N : Addr → Prop) (K G : PH) (env : Env) (wr : List Str) (Ψ : List PV → Sto → Prop) (it : Value) (s₂ : Shared) : Prop where
 | mk : ∀ I fp ws Stt G' σ' items, it = .ref I → G.Le G' → Iter W A I fp ws G' items Stt → Stt 0 s₂.heap → LS W N K G' env wr σ' ws s₂ → Ψ items σ' → IPost W A N K G env wr Ψ it s₂
inductive ITPost (W : Wd) (A : Around) (N : Addr → Prop) (K G : PH) (env : Env) (wr : List Str) (Ψ : List (List PV) → Sto → Prop) (it : Value) (s₂ : Shared) : Prop where
 | mk : ∀ I fp ws Stt Mid G' σ' items, it = .ref I → G.Le G' → IterT W A I fp ws G' items Stt Mid → Stt 0 s₂.heap → LS W N K G' env wr σ' ws s₂ → Ψ items σ' → ITPost W A N K G env wr Ψ it s₂
def EvI (W : Wd) (n : Nat) (env : Env) (wr : List Str) (e : Expr) (σ : Sto) (Ψ : List PV → Sto → Prop) : Prop :=
 ∀ A N K G s, Room A n → St W N K G env wr σ s → wpAny W.M A (eval e env) (fun x s₁ => wpAny W.M A (pyIter x) (IPost W A N K G env wr Ψ) NoE s₁) NoE s
def EvT' (W : Wd) (n : Nat) (env : Env) (wr : List Str) (e : Expr) (σ : Sto) (Ψ : List (List PV) → Sto → Prop) : Prop :=
 ∀ A N K G s, Room A n → St W N K G env wr σ s → wpAny W.M A (eval e env) (fun x s₁ => wpAny W.M A (pyIter x) (ITPost W A N K G env wr Ψ) NoE s₁) NoE s
inductive KIt (W : Wd) (n : Nat) (Ψ : List PV → Sto → Prop) (p : PV) (σ : Sto) : Prop where
 | mk (items : List PV) (i : IterP W n p items) (h : Ψ items σ) : KIt W n Ψ p σ
inductive KItT (W : Wd) (n : Nat) (Ψ : List (List PV) → Sto → Prop) (p : PV) (σ : Sto) : Prop where
 | mk (items : List (List PV)) (i : IterTP W n p items) (h : Ψ items σ) : KItT W n Ψ p σ
abbrev KForL (W : Wd) (n : Nat) (env : Env) (wr : List Str) (tgt : Expr) (body : List Stmt) (Φ : PF → Sto → Prop) (items : List PV) (σ : Sto) : Prop := forL W n env wr tgt body items σ Φ
abbrev KForT (W : Wd) (n : Nat) (env : Env) (wr : List Str) (elts : List Expr) (body : List Stmt) (Φ : PF → Sto → Prop) (items : List (List PV)) (σ : Sto) : Prop := forT W n env wr elts body items σ Φ
theorem EvI.of {e : Expr} {Ψ : List PV → Sto → Prop} (h : Ev W n env wr e σ (KIt W n Ψ)) : EvI W n env wr e σ Ψ :=
 fun A N K G s R S => bE (h A N K G s R S) fun v p σ₁ G₁ s₁ g₁ S₁ r₁ ⟨items, hi, h₁⟩ =>
  hi A _ G₁ s₁ v _ R S₁.hp r₁ fun I fp ws Stt h' tk X st k new => ⟨I, fp, ws, Stt, G₁, σ₁, items, rfl, g₁, X, st, LS.start S₁ k new (X.live _ _ st), h₁⟩
theorem EvT'.of {e : Expr} {Ψ : List (List PV) → Sto → Prop} (h : Ev W n env wr e σ (KItT W n Ψ)) : EvT' W n env wr e σ Ψ :=
 fun A N K G s R S => bE (h A N K G s R S) fun v p σ₁ G₁ s₁ g₁ S₁ r₁ ⟨items, hi, h₁⟩ =>
  hi A _ G₁ s₁ v _ R S₁.hp r₁ fun I fp ws Stt Mid h' tk X st k new => ⟨I, fp, ws, Stt, Mid, G₁, σ₁, items, rfl, g₁, X, st, LS.start S₁ k new (X.live _ _ st), h₁⟩
theorem Ex1.forI {x : Str} {px pos : Pos} {iter : Expr} {body : List Stmt} {Φ : PF → Sto → Prop}
  (h : EvI W n env wr iter σ (KForL W n env wr (.Name x px) body Φ))
  (hs : ∀ x, foldedSetIterable iter env x = pure x := by intro _; with_unfolding_all rfl) : Ex1 W n env wr (.For (.Name x px) iter body [] pos) σ Φ :=
 fun A N K G s R S => wpAny_For (hs := hs) (wpAny_mono (h A N K G s R S) (fun v s₁ h₁ => toE (wpAny_mono h₁ (fun it s₂ ⟨I, fp, ws, Stt, G', σ', items, e, g, X, st, L, h₂⟩ => by
  subst e
  exact forLoop_wp (RR := fun r s' => match r with | .ok f => FPost W N K G env wr Φ f s' | .error e => cameBackBy W.M A env NoE e s') R X g L st h₂ fun _ _ x => x) fun _ _ x => x)) fun _ _ x => x)
theorem Ex1.forTI {elts : List Expr} {k₀ : Nat} {tp pos : Pos} {iter : Expr} {body : List Stmt} {Φ : PF → Sto → Prop}
  (h : EvT' W n env wr iter σ (KForT W n env wr elts body Φ))
  (hs : ∀ x, foldedSetIterable iter env x = pure x := by intro _; with_unfolding_all rfl) (hn : noStar elts = true := by with_unfolding_all rfl) : Ex1 W n env wr (.For (.Tuple elts k₀ tp) iter body [] pos) σ Φ :=
 fun A N K G s R S => wpAny_For (hs := hs) (wpAny_mono (h A N K G s R S) (fun v s₁ h₁ => toE (wpAny_mono h₁ (fun it s₂ ⟨I, fp, ws, Stt, Mid, G', σ', items, e, g, X, st, L, h₂⟩ => by
  subst e
  exact forLoopT_wp (RR := fun r s' => match r with | .ok f => FPost W N K G env wr Φ f s' | .error e => cameBackBy W.M A env NoE e s') R X g L st hn h₂ fun _ _ x => x) fun _ _ x => x)) fun _ _ x => x)
theorem IterP.list {ps : List PV} : IterP W n (.list ps) ps := fun A N G s v Q R H r h => by
 refine o4_5 r fun a o vs m ze g hc hd rs => ?_; clear r; obtain rfl := ze
 have hl : s.heap.IsList a vs := ⟨o, H.gin _ _ g, hc, m, hd⟩
 have hne := H.new g
 have hlen : vs.size = ps.length := by rw [← rs.length]; simp
 refine wpAny_pyIter_list hl (h s.heap.objs.size [s.heap.objs.size, a] [s.heap.objs.size] (fun i h => h.IsListIter s.heap.objs.size a i ∧ h.IsList a vs) _ s.toks ?_ ⟨⟨_, Heap.get?_push_size _ rfl, rfl, rfl⟩, hl.push _⟩ (HLeF.push _ _) (fun b hb => by rw [List.mem_singleton.mp hb]; exact new_none _))
 refine ⟨?_, fun i h' st b hb => ?_, fun b hb => ?_⟩
 ·rw [← hlen]; exact (Walks.list R.handled _ a hne vs).weaken fun i v hv => rs.get (by simpa using hv)
 ·rw [List.mem_singleton.mp hb]; exact o1_2 st.1 fun o e _ => ⟨o, e⟩
 ·rcases List.mem_cons.mp hb with e | hb
  ·exact .inl (by rw [e]; exact List.mem_singleton.mpr rfl)
  ·rw [List.mem_singleton.mp hb]; exact .inr ⟨o, g⟩
def signs (x : Str) : List PV := x.cps.toList.map fun c => .str ⟨#[c]⟩
theorem sign_item {x : Str} {i : Nat} {v : Value} (h : SignAt x i v) : ∃ q, (signs x)[i]? = some q ∧ Rep W G q v := by
 refine o2_2 h fun c u e zd => ?_; clear h; obtain rfl := zd
 refine (i1_2 (.str ⟨#[c]⟩) ?_ (by exact Exists.intro u rfl))
 simp [signs, e]
theorem IterP.str {x : Str} : IterP W n (.str x) (signs x) := fun A N G s v Q R H r h => by
 refine o1_1 r fun t zb => ?_; clear r; obtain rfl := zb
 have hlen : x.cps.size = (signs x).length := by simp [signs]
 cases ha : x.cps.all (· < 128)
 ·refine wpAny_pyIter_wide ha (h s.heap.objs.size [s.heap.objs.size] [s.heap.objs.size] (fun i h => h.IsStrIter s.heap.objs.size "str_iterator" x t i) _ s.toks ?_ ⟨_, Heap.get?_push_size _ rfl, rfl, rfl⟩ (HLeF.push _ _) (fun b hb => by rw [List.mem_singleton.mp hb]; exact new_none _))
  refine ⟨?_, fun i h' st b hb => ?_, fun b hb => .inl hb⟩
  ·rw [← hlen]; exact (Walks.strWide R.handled _ x t).weaken fun i v hv => sign_item hv
  ·rw [List.mem_singleton.mp hb]; exact o1_2 st fun o e _ => ⟨o, e⟩
 ·refine wpAny_pyIter_ascii ha (h s.heap.objs.size [s.heap.objs.size] [s.heap.objs.size] (fun i h => h.IsStrIter s.heap.objs.size "str_ascii_iterator" x t i) _ s.toks ?_ ⟨_, Heap.get?_push_size _ rfl, rfl, rfl⟩ (HLeF.push _ _) (fun b hb => by rw [List.mem_singleton.mp hb]; exact new_none _))
  refine ⟨?_, fun i h' st b hb => ?_, fun b hb => .inl hb⟩
  ·rw [← hlen]; exact (Walks.strAscii R.handled _ x t).weaken fun i v hv => sign_item hv
  ·rw [List.mem_singleton.mp hb]; exact o1_2 st fun o e _ => ⟨o, e⟩
theorem RepKV.length : ∀ {es : List (Str × PV)} {kvs : List (Str × Value)}, RepKV W G es kvs → kvs.length = es.length
 | [], _, h => by obtain rfl := h; rfl
 | (k, p) :: es, _, h => by
  refine o2_3 h fun v r zc _ b => ?_; clear h; obtain rfl := zc
  simp [RepKV.length b]
theorem RepKV.get : ∀ {es : List (Str × PV)} {kvs : List (Str × Value)} {i : Nat} {k : Str} {v : Value}, RepKV W G es kvs → kvs[i]? = some (k, v) → ∃ p, es[i]? = some (k, p) ∧ Rep W G p v
 | [], _, _, _, _, h, e => by obtain rfl := h; simp at e
 | (k', p) :: es, _, 0, k, v, h, e => by
  refine o2_3 h fun u r zc h1 h2 => ?_; clear h; obtain rfl := zc
  simp at e; refine o0_2 e fun za zb => ?_; clear e; obtain rfl := za; obtain rfl := zb; exact (i1_2 p rfl h1)
 | (k', p) :: es, _, i + 1, k, v, h, e => by
  refine o2_3 h fun u r zc h1 h2 => ?_; clear h; obtain rfl := zc
  simp at e; refine o1_2 (RepKV.get h2 e) fun q a b => ?_; exact (i1_2 q (by simpa using a) b)
theorem isDictOf_at {h : Heap} {a : Addr} {o : Obj} {kvs : List (Str × Value)} (e : h.get? a = some o) (d : o.IsDictOf W.knd kvs) : ∃ ep, h.DictAt W.knd a kvs ep :=
 (Heap.dictOf_iff.mpr (i1_2 o e d)).dictAt
theorem IterP.dict {es : List (Str × PV)} : IterP W n (.dict es) (es.map fun e => .str e.1) := fun A N G s v Q R H r h => by
 refine o3_5 r fun a o kvs zd g hd hm rs => ?_; clear r; obtain rfl := zd
 refine o1_1 (isDictOf_at (H.gin _ _ g) hd) fun ep hl => ?_
 have hne := H.new g
 have hlen : kvs.length = (es.map fun e => PV.str e.1).length := by rw [rs.length]; simp
 refine wpAny_pyIter_dict hm hl (h s.heap.objs.size [s.heap.objs.size, a] [s.heap.objs.size] (fun i h => h.IsKeyIter s.heap.objs.size a i kvs.length ep ∧ h.DictAt W.knd a kvs ep) _ s.toks ?_ ⟨⟨_, Heap.get?_push_size _ rfl, rfl, rfl⟩, hl.push _⟩ (HLeF.push _ _) (fun b hb => by rw [List.mem_singleton.mp hb]; exact new_none _))
 refine ⟨?_, fun i h' st b hb => ?_, fun b hb => ?_⟩
 ·rw [← hlen]
  refine (Walks.dictKeys R.handled _ a hne kvs ep).weaken fun i v zz => o2_2 zz fun k x hv hk => ?_
  refine o1_2 (rs.get hv) fun p e _ => ?_
  refine o1_1 (Value.isStrOf_shape hk) fun t zb => ?_; obtain rfl := zb
  exact (i1_2 (.str k) (by simp [e]) (by exact Exists.intro t rfl))
 ·rw [List.mem_singleton.mp hb]; exact o1_2 st.1 fun o e _ => ⟨o, e⟩
 ·rcases List.mem_cons.mp hb with e | hb
  ·exact .inl (by rw [e]; exact List.mem_singleton.mpr rfl)
  ·rw [List.mem_singleton.mp hb]; exact .inr ⟨o, g⟩
theorem IterP.values {es : List (Str × PV)} : IterP W n (.obj "dict_values" [.dict es]) (es.map (·.2)) := fun A N G s v Q R H r h => by
 refine o2_3 r fun b₀ vs zc g₀ rs₀ => ?_; clear r; obtain rfl := zc
 refine o2_3 rs₀ fun u r' e₀ ru rn => ?_; clear rs₀
 obtain rfl := rn
 refine o3_5 ru fun a o kvs zd g hd hm rs => ?_; clear ru; obtain rfl := zd
 refine o1_1 (isDictOf_at (H.gin _ _ g) hd) fun ep hl => ?_
 have hne := H.new g
 have hlen : kvs.length = (es.map (·.2)).length := by rw [rs.length]; simp
 have hv : s.heap.IsValuesView b₀ a := ⟨_, H.gin _ _ g₀, rfl, by show Data.fields vs = _; rw [show vs = #[.ref a] from by apply Array.toList_inj.mp; rw [e₀]]⟩
 refine wpAny_pyIter_values hv hl (h s.heap.objs.size [s.heap.objs.size, a] [s.heap.objs.size] (fun i h => h.IsValIter s.heap.objs.size a i kvs.length ep ∧ h.DictAt W.knd a kvs ep) _ s.toks ?_ ⟨⟨_, Heap.get?_push_size _ rfl, rfl, rfl⟩, hl.push _⟩ (HLeF.push _ _) (fun b hb => by rw [List.mem_singleton.mp hb]; exact new_none _))
 refine ⟨?_, fun i h' st b hb => ?_, fun b hb => ?_⟩
 ·rw [← hlen]
  refine (Walks.dictValues R.handled _ a hne kvs ep).weaken fun i v zz => o1_1 zz fun k hv => ?_
  refine o1_2 (rs.get hv) fun p e hp => ?_
  exact (i1_2 p (by simp [e]) hp)
 ·rw [List.mem_singleton.mp hb]; exact o1_2 st.1 fun o e _ => ⟨o, e⟩
 ·rcases List.mem_cons.mp hb with e | hb
  ·exact .inl (by rw [e]; exact List.mem_singleton.mpr rfl)
  ·rw [List.mem_singleton.mp hb]; exact .inr ⟨o, g⟩
def rangePV (a : Int) (m : Nat) : List PV := (List.range m).map fun i : Nat => .int (a + (i : Int))
theorem IterP.range {a b : Int} {m : Nat} (ha : -(2 ^ 62) ≤ a) (ha' : a < 2 ^ 62) (hb : -(2 ^ 62) ≤ b) (hb' : b < 2 ^ 62) (hm : (b - a).toNat = m) : IterP W n (.obj "range" [.int a, .int b, .int 1]) (rangePV a m) := fun A N G s v Q R H r h => by
 refine o2_3 r fun b₀ vs zc g₀ rs₀ => ?_; clear r; obtain rfl := zc
 refine o2_3 rs₀ fun u r' e₀ ru rn => ?_; clear rs₀
 refine o2_3 rn ?_; clear rn; intro u2 r2 e2 ru2 rn
 refine o2_3 rn ?_; clear rn; intro u3 r3 e3 ru3 rn
 obtain rfl := rn
 refine o1_1 ru fun t zb => ?_; clear ru; obtain rfl := zb; refine o1_1 ru2 fun t2 zb => ?_; clear ru2; obtain rfl := zb; refine o1_1 ru3 fun t3 zb => ?_; clear ru3; obtain rfl := zb
 have hvs : vs = #[.int a t, .int b t2, .int 1 t3] := by apply Array.toList_inj.mp; rw [e₀, e2, e3]
 subst hvs
 have hsz : Builtin.Range.rangeSize a b 1 = (m : Int) := by rw [rangeSize_one]; split <;> omega
 refine wpAny_pyIter_range (H.gin _ _ g₀) (small_one ha ha' hb hb') (h s.heap.objs.size [s.heap.objs.size] [s.heap.objs.size] (fun i h => IsRangeIter h s.heap.objs.size (a + (i : Nat) * 1) ((m : Int) - (i : Nat)) 1) _ s.toks ?_ ?_ (HLeF.push _ _) (fun b hb => by rw [List.mem_singleton.mp hb]; exact new_none _))
 ·refine ⟨?_, fun i h' st b hb => ?_, fun b hb => .inl hb⟩
  ·rw [show (rangePV a m).length = m by simp [rangePV]]
   refine ((Walks.range R.handled _ a 1 m).bound).weaken fun i v zz => o0_2 zz fun hi zz => o1_1 zz fun t hv => ?_
   exact (i1_2 (.int (a + i)) (by simp [rangePV, hi]) (by exact Exists.intro t (by rw [hv, Int.mul_one])))
  ·rw [List.mem_singleton.mp hb]; exact ⟨_, st⟩
 ·show IsRangeIter _ _ _ _ _
  rw [hsz]
  have := Heap.get?_push_size s.heap (o := { cls := .type "range_iterator", data := .fields #[rawInt a, rawInt (m : Int), rawInt 1] }) rfl
  simpa using this
end Mine
end
section
open PySem PySem.W PyProof.Rows
namespace Mine
variable {W : Wd} {n : Nat} {env : Env} {wr : List Str} {σ : Sto} {N : Addr → Prop} {K G : PH} {s : Shared} {ws : List Addr}
theorem WalksU.weaken {prog : Program} {w : World} {A : Around} {I : Addr} {fp wr : List Addr} {n : Nat} {P P' : Nat → Array Value → Prop} {St : Nat → Heap → Prop} {Mid : Nat → Addr → Heap → Prop}
  (X : WalksU prog w A I fp wr n P St Mid) (h : ∀ i v, i < n → P i v → P' i v) : WalksU prog w A I fp wr n P' St Mid where
 sub := X.sub
 frame := X.frame
 item := fun i s Q E hi st hQ => X.item i s Q E hi st fun T vals h' tk hP hT hm hk => hQ T vals h' tk (h i vals hi hP) hT hm hk
 go := X.go
 apart := X.apart
 done := X.done
 self := X.self
theorem IterTP.list {qss : List (List PV)} : IterTP W n (.list (qss.map .tuple)) qss := fun A N G s v Q R H r h => by
 refine o4_5 r fun a o vs m ze g hc hd rs => ?_; clear r; obtain rfl := ze
 have hl : s.heap.IsList a vs := ⟨o, H.gin _ _ g, hc, m, hd⟩
 have hne := H.new g
 have hlen : vs.size = qss.length := by have := rs.length; simpa using this
 have ex : ∀ j, ∃ (T : Addr) (vals : Array Value), j < vs.size → vs[j]? = some (.ref T) ∧ (∃ o, G T = some o ∧ o.cls = .type "tuple" ∧ ∃ k, o.data = .seq vals k) ∧ ∃ qs, qss[j]? = some qs ∧ Reps W G qs vals.toList := fun j => by
  by_cases hj : j < vs.size
  ·refine o1_2 (rs.get (i := j) (v := vs[j]) (by simp [hj])) fun p hp hr => ?_
   obtain ⟨qs, hq, rfl⟩ : ∃ qs, qss[j]? = some qs ∧ PV.tuple qs = p := by
    rw [List.getElem?_map] at hp
    cases e : qss[j]? with
    | none => rw [e] at hp; cases hp
    | some qs => rw [e] at hp; exact (i1_2 qs rfl (Option.some.inj hp))
   refine o4_5 hr fun T o' vals k e h1 h2 h3 h4 => ?_; clear hr
   exact (i2_1 T vals (fun _ => ⟨by rw [← e]; simp [hj], (i1_3 o' h1 h2 ⟨k, h3⟩), qs, hq, h4⟩))
  ·exact (i2_1 0 (#[]) (fun h => absurd h hj))
 refine o1_1 (Classical.axiomOfChoice ex) fun Ts ex => ?_
 refine o1_1 (Classical.axiomOfChoice ex) fun vals ex => ?_
 have hTI : ∀ j, j < vs.size → Ts j ≠ s.heap.objs.size := fun j hj => by
  refine o0_3 (ex j hj) fun _ zb _ => ?_; refine o1_2 zb fun o' h1 _ => ?_; clear zb; exact H.new h1
 refine wpAny_pyIter_list hl (h s.heap.objs.size (s.heap.objs.size :: a :: (List.range vs.size).map Ts) [s.heap.objs.size] (fun j h => h.IsListIter s.heap.objs.size a j ∧ h.IsList a vs ∧ ∀ k, k < vs.size → h.IsTuple (Ts k) (vals k))
  (fun j T h => (j < vs.size ∧ T = Ts j) ∧ h.IsListIter s.heap.objs.size a (j + 1) ∧ h.IsList a vs ∧ ∀ k, k < vs.size → h.IsTuple (Ts k) (vals k)) _ s.toks ?_
  ⟨⟨_, Heap.get?_push_size _ rfl, rfl, rfl⟩, hl.push _, fun k hk => ?_⟩ (HLeF.push _ _) (fun b hb => by rw [List.mem_singleton.mp hb]; exact new_none _))
 ·refine ⟨?_, fun i h' st b hb => ?_, fun i T h' st b hb => ?_, fun b hb => ?_⟩
  ·rw [← hlen]; exact WalksU.weaken (WalksU.listOfTuples R.handled _ a hne vs Ts vals (fun j hj => (ex j hj).1) hTI) fun i v hi hv => by
    refine o0_3 (ex i hi) fun _ _ zz => ?_; refine o1_2 zz fun qs h1 h2 => ?_; clear zz
    exact (i1_2 qs h1 (by rw [hv]; exact h2))
  ·rw [List.mem_singleton.mp hb]; exact o1_2 st.1 fun o e _ => ⟨o, e⟩
  ·rw [List.mem_singleton.mp hb]; exact o1_2 st.2.1 fun o e _ => ⟨o, e⟩
  ·rcases List.mem_cons.mp hb with e | hb
   ·exact .inl (by rw [e]; exact List.mem_singleton.mpr rfl)
   ·rcases List.mem_cons.mp hb with e | hb
    ·rw [e]; exact .inr ⟨o, g⟩
    ·refine o1_2 (List.mem_map.mp hb) fun k hk zc => ?_; obtain rfl := zc
     refine o0_3 (ex k (List.mem_range.mp hk)) fun _ zb _ => ?_; refine o1_2 zb fun o' h1 _ => ?_; clear zb
     exact .inr ⟨o', h1⟩
 ·refine o0_3 (ex k hk) fun _ zb _ => ?_; refine o1_3 zb fun o' h1 h2 zz => ?_; clear zb; refine o1_1 zz fun kk h3 => ?_; clear zz
  exact ⟨o', Heap.get?_push_of_some _ (H.gin _ _ h1), h2, kk, h3⟩
theorem WalksU.items {A : Around} (hh : A.handled = none) (I d : Addr) (hne : d ≠ I) (kvs : List (Str × Value)) (ep : Nat) :
  WalksU W.prog W.w A I [I, d] [I] kvs.length (fun i vals => ∃ k x key, kvs[i]? = some (k, x) ∧ W.knd.is k key = true ∧ vals = #[key, x])
   (fun i h => (∃ ok ov, IsItemIter h I d i kvs.length ep ok ov) ∧ h.DictAt W.knd d kvs ep)
   (fun i T h => (∃ ok ov, IsItemIterOut h I d (i + 1) kvs.length ep ok ov T) ∧ h.DictAt W.knd d kvs ep ∧ T ≠ I) where
 sub := fun b hb => by simp at hb; simp [hb]
 frame := fun _ h h' zz hk => o0_2 zz fun zz st2 => o2_1 zz fun ok ov st => ⟨(i2_1 ok ov (hk I (by simp) _ st)), st2.at' fun o e => hk d (by simp) o e⟩
 item := fun i s Q E hi zz hQ => o0_2 zz fun zz st2 => o2_1 zz fun ok ov st => by
  obtain ⟨⟨k, x⟩, hx⟩ : ∃ p, kvs[i]? = some p := ⟨kvs[i], by simp [hi]⟩
  refine wpAny_pyNext_items_item st st2 hx fun key h' hkey hit' hT hsz hs' => ?_
  exact hQ s.heap.objs.size #[key, x] h' s.toks (i3_3 k x key hx hkey rfl) ⟨_, hT, rfl, _, rfl⟩ ⟨(i2_1 _ _ hit'), st2.at' fun o e => hs' d o hne e, (Nat.ne_of_lt (Heap.lt_size st)).symm⟩
   fun b o hb e => hs' b o (fun h => hb (by simp [h])) e
 go := fun elts k pos i T s Q E zz hQ => o0_3 zz fun zz st2 _ => o2_1 zz fun ok ov st => wpAny_letOwnedTupleGo_items st fun h' hi hs => hQ h' ⟨(i2_1 ok ov hi), st2.extBut hs.extBut hne⟩ fun b o hb e => hs.extBut b o (fun h => hb (by simp [h])) e
 apart := fun i T h zz hm => o0_3 zz fun _ _ hT => hT (List.mem_singleton.mp hm)
 done := fun s Q E zz hQ => o0_2 zz fun zz st2 => o2_1 zz fun ok ov st => wpAny_pyNext_items_end hh st st2 (by simp) fun h' he' => hQ h' s.toks fun b o hb e => he' b o (fun h => hb (by simp [h])) e
 self := fun _ _ _ _ zz hQ => o0_2 zz fun zz _ => o2_1 zz fun _ _ st => kcp_self st hQ
theorem IterTP.items {es : List (Str × PV)} : IterTP W n (.obj "dict_items" [.dict es]) (es.map fun e => [.str e.1, e.2]) := fun A N G s v Q R H r h => by
 refine o2_3 r fun b₀ vs zc g₀ rs₀ => ?_; clear r; obtain rfl := zc
 refine o2_3 rs₀ fun u r' e₀ ru rn => ?_; clear rs₀
 obtain rfl := rn
 refine o3_5 ru fun a o kvs zd g hd hm rs => ?_; clear ru; obtain rfl := zd
 refine o1_1 (isDictOf_at (H.gin _ _ g) hd) fun ep hl => ?_
 have hne := H.new g
 have hlen : kvs.length = (es.map fun e => [PV.str e.1, e.2]).length := by rw [rs.length]; simp
 have hv : s.heap.IsItemsView b₀ a := ⟨_, H.gin _ _ g₀, rfl, by show Data.fields vs = _; rw [show vs = #[.ref a] from by apply Array.toList_inj.mp; rw [e₀]]⟩
 refine wpAny_pyIter_items hv hl (h s.heap.objs.size [s.heap.objs.size, a] [s.heap.objs.size] (fun i h => (∃ ok ov, IsItemIter h s.heap.objs.size a i kvs.length ep ok ov) ∧ h.DictAt W.knd a kvs ep)
  (fun i T h => (∃ ok ov, IsItemIterOut h s.heap.objs.size a (i + 1) kvs.length ep ok ov T) ∧ h.DictAt W.knd a kvs ep ∧ T ≠ s.heap.objs.size) _ s.toks ?_
  ⟨(i2_1 _ _ (Heap.get?_push_size _ rfl)), hl.push _⟩ (HLeF.push _ _) (fun b hb => by rw [List.mem_singleton.mp hb]; exact new_none _))
 refine ⟨?_, fun i h' st b hb => ?_, fun i T h' st b hb => ?_, fun b hb => ?_⟩
 ·rw [← hlen]
  refine WalksU.weaken (WalksU.items R.handled _ a hne kvs ep) fun i v hi zz => o3_3 zz fun k x key hx hk hv => ?_
  refine o1_2 (rs.get hx) fun p e hp => ?_
  refine o1_1 (Value.isStrOf_shape hk) fun t zb => ?_; obtain rfl := zb
  refine (i1_2 ([.str k, p]) (by simp [e]) ?_)
  rw [hv]; exact Reps.cons (by exact Exists.intro t rfl) (Reps.cons hp Reps.nil)
 ·rw [List.mem_singleton.mp hb]; exact o2_1 st.1 fun _ _ e => ⟨_, e⟩
 ·rw [List.mem_singleton.mp hb]; exact o2_1 st.1 fun _ _ e => ⟨_, e⟩
 ·rcases List.mem_cons.mp hb with e | hb
  ·exact .inl (by rw [e]; exact List.mem_singleton.mpr rfl)
  ·rw [List.mem_singleton.mp hb]; exact .inr ⟨o, g⟩
def enumPV (ps : List PV) : List (List PV) := ps.zipIdx.map fun x => [.int (x.2 : Int), x.1]
theorem enumPV_get {ps : List PV} {i : Nat} {p : PV} (h : ps[i]? = some p) : (enumPV ps)[i]? = some [.int (i : Int), p] := by
 simp [enumPV, h]
inductive KEnum (Ψ : List (List PV) → Sto → Prop) : PV → Sto → Prop where
 | mk {ps : List PV} {σ : Sto} (h : Ψ (enumPV ps) σ) : KEnum Ψ (.list ps) σ
theorem EvT'.enumerate {e : Expr} {px pos : Pos} {Ψ : List (List PV) → Sto → Prop} (hk : env.kindOf "enumerate" = some .globalImplicit) (hb : env.builtins = builtinsNs) (hv : W.Top "enumerate" (.type "enumerate"))
  (h : Ev W n env wr e σ (KEnum Ψ)) (hs : isStarred e = false := by with_unfolding_all rfl) :
  EvT' W n env wr (.Call (.Name "enumerate" px) [e] [] pos) σ Ψ :=
 fun A N K G s R S => by
  show wpAny W.M A (do callWith pos (← eval (.Name "enumerate" px) env) [] (backTo pos (starEach [e] env)) (backToKw pos (keywordEach [] env))) _ _ s
  have hg : Ev W n env wr (.Name "enumerate" px) σ (fun p σ₁ => p = .val (.type "enumerate") ∧ σ₁ = σ) := Ev.glob hk hb hv ⟨rfl, rfl⟩
  refine wpAny_bind (bE (hg A N K G s R S) fun v p σ₁ G₁ s₁ g₁ S₁ r₁ zz => o0_2 zz fun e1 e2 => ?_)
  subst e1 e2; obtain rfl := r₁
  refine callWith_of (P := fun _ => True) (by rw [starEach_cons hs]; rfl) (fun hh _ => (i1_2 .machine (.inr (.inl rfl)) (fun _ _ _ _ _ q => wpAny_pure q))) ?_
  suffices key : wpAny W.M A (spliced (backTo pos (starEach [e] env))) (fun vs s₁ => True ∧ wpAny W.M A (call (.type "enumerate") ([] ++ vs)) (fun x s₁ => wpAny W.M A (pyIter x) (ITPost W A N K G env wr Ψ) NoE s₁) NoE s₁) NoE s₁ by
   have e1 := starEach_cons (env := env) (r := []) (e := e) hs
   rw [e1] at key ⊢
   exact Calls.evalArgs_plain key
  refine wpAny_items_cons ?_ (starEach_cons hs)
  refine bE (h A N K G₁ s₁ R S₁) fun v p σ₁ G₂ s₂ g₂ S₂ r₂ h₂ => ?_
  cases h₂ with
  | mk h₂ => ?_
  rename_i ps
  refine wpAny_items_nil ⟨trivial, ?_⟩
  refine o4_5 r₂ fun a o vs m ze g hc hd rs => ?_; clear r₂; obtain rfl := ze
  have H := S₂.hp
  have hl : s₂.heap.IsList a vs := ⟨o, H.gin _ _ g, hc, m, hd⟩
  have hne := H.new g
  have hlen : vs.size = (enumPV ps).length := by have := rs.length; simpa [enumPV] using this
  have lta : a < s₂.heap.objs.size := Heap.lt_size (H.gin _ _ g)
  have hnew : ∀ b, s₂.heap.objs.size ≤ b → s₂.heap.get? b = none := fun b hb => by
   cases e : s₂.heap.get? b with
   | none => rfl
   | some o => exact absurd (Heap.lt_size e) (Nat.not_lt.mpr hb)
  refine call_enumerate_list hl fun h' he hit hsz hk' => ?_
  have hl' : h'.IsList a vs := ⟨o, hk' _ _ (H.gin _ _ g), hc, m, hd⟩
  refine wpAny_pyIter_enum he ?_
  refine ⟨s₂.heap.objs.size + 1, [s₂.heap.objs.size + 1, s₂.heap.objs.size, a], [s₂.heap.objs.size + 1, s₂.heap.objs.size],
   (fun i h => (∃ old, IsEnum h (s₂.heap.objs.size + 1) s₂.heap.objs.size i old) ∧ h.IsListIter s₂.heap.objs.size a i ∧ h.IsList a vs),
   (fun i T h => (∃ x, IsEnumOut h (s₂.heap.objs.size + 1) s₂.heap.objs.size ((i : Int) + 1) x T) ∧ h.IsListIter s₂.heap.objs.size a (i + 1) ∧ h.IsList a vs ∧ T ≠ s₂.heap.objs.size + 1 ∧ T ≠ s₂.heap.objs.size),
   G₂, σ₁, enumPV ps, rfl, g₁.trans g₂, ⟨?_, fun i h st b hb => ?_, fun i T h st b hb => ?_, fun b hb => ?_⟩, ⟨⟨_, he⟩, hit, hl'⟩, LS.start S₂ hk' (fun b hb => hnew b ?_) (fun b hb => ?_), h₂⟩
  ·rw [← hlen]
   refine WalksU.weaken (WalksT.enumerate R.handled _ _ a (Nat.succ_ne_self _) (Nat.ne_of_lt (Nat.lt_succ_of_lt lta)) hne vs).toU fun i v hi zz => o2_2 zz fun t x hx hv => ?_
   refine o1_2 (rs.get (i := i) (v := x) (by simpa using hx)) fun p e1 hp => ?_
   exact (i1_2 _ (enumPV_get e1) (by rw [hv]; exact Reps.cons (by exact Exists.intro t rfl) (Reps.cons hp Reps.nil)))
  ·rcases List.mem_cons.mp hb with e | hb
   ·rw [e]; exact o1_1 st.1 fun _ x => ⟨_, x⟩
   ·rw [List.mem_singleton.mp hb]; exact o1_2 st.2.1 fun o x _ => ⟨o, x⟩
  ·rcases List.mem_cons.mp hb with e | hb
   ·rw [e]; exact o1_1 st.1 fun _ x => ⟨_, x⟩
   ·rw [List.mem_singleton.mp hb]; exact o1_2 st.2.1 fun o x _ => ⟨o, x⟩
  ·rcases List.mem_cons.mp hb with e | hb
   ·exact .inl (by simp [e])
   ·rcases List.mem_cons.mp hb with e | hb
    ·exact .inl (by simp [e])
    ·rw [List.mem_singleton.mp hb]; exact .inr ⟨o, g⟩
  ·rcases List.mem_cons.mp hb with e | hb
   ·rw [e]; exact Nat.le_succ _
   ·rw [List.mem_singleton.mp hb]; exact Nat.le_refl _
  ·rcases List.mem_cons.mp hb with e | hb
   ·rw [e]; exact ⟨_, he⟩
   ·rw [List.mem_singleton.mp hb]; exact o1_2 hit fun o x _ => ⟨o, x⟩
end Mine
end
section
open PySem PySem.W PyProof.Rows
namespace Mine
variable {W : Wd} {n : Nat} {env : Env} {wr : List Str} {σ : Sto} {N : Addr → Prop} {K G : PH} {s : Shared} {ws : List Addr}
theorem Nx_app {N : Addr → Prop} {A B : List Addr} : Nx (Nx N A) B = Nx N (A ++ B) := by
 funext a; apply propext; simp only [Nx, List.mem_append, or_assoc]
theorem Kx_app {K : PH} {h h' : Heap} {A B : List Addr} (e : ∀ b ∈ A, h.get? b = h'.get? b) : Kx (Kx K h A) h' B = Kx K h' (A ++ B) := by
 funext b
 unfold Kx
 by_cases hB : b ∈ B
 ·simp [hB]
 ·by_cases hA : b ∈ A
  ·simp [hA, hB, e b hA]
  ·simp [hA, hB]
theorem LS.join {A B : List Addr} {h : Heap} (L : LS W (Nx N A) (Kx K h A) G env wr σ B s) (hl : ∀ b ∈ A, ∃ o, h.get? b = some o) (hn : ∀ a, N a → a ∉ A) (hk : ∀ b ∈ A, K b = none) (hc : ∀ x c, env.cells.lookup x = some c → c ∉ A)
  (base : ∀ b o, W.h₀.get? b = some o → K b = some o) : LS W N K G env wr σ (A ++ B) s := by
 have hAB : ∀ b ∈ A, b ∉ B := fun b hb => L.n b (.inr hb)
 have e : ∀ b ∈ A, h.get? b = s.heap.get? b := fun b hb => by
  refine o1_1 (hl b hb) fun o ho => ?_
  rw [ho]; exact (L.st.kin b o (by rw [Kx_out (hAB b hb), Kx_in hb]; exact ho)).symm
 refine ⟨by rw [← Nx_app, ← Kx_app e]; exact L.st, fun b hb => ?_, fun a ha => ?_, fun b hb => ?_, fun x c hx => ?_, base⟩
 ·rcases List.mem_append.mp hb with hb | hb
  ·refine o1_1 (hl b hb) fun o ho => ?_; exact ⟨o, by rw [← e b hb]; exact ho⟩
  ·exact L.live b hb
 ·intro q; rcases List.mem_append.mp q with q | q
  ·exact hn a ha q
  ·exact L.n a (.inl ha) q
 ·rcases List.mem_append.mp hb with hb' | hb'
  ·exact hk b hb'
  ·have := L.k b hb'
   by_cases hA : b ∈ A
   ·exact hk b hA
   ·rwa [Kx_out hA] at this
 ·intro q; rcases List.mem_append.mp q with q | q
  ·exact hc x c hx q
  ·exact L.c x c hx q
theorem LS.part {A B : List Addr} (L : LS W N K G env wr σ (A ++ B) s) (hd : ∀ b ∈ A, b ∉ B) : LS W (Nx N A) (Kx K s.heap A) G env wr σ B s :=
 ⟨by rw [Nx_app, Kx_app (fun _ _ => rfl)]; exact L.st, fun b hb => L.live b (List.mem_append_right _ hb), fun a ha => ha.elim (fun h q => L.n a h (List.mem_append_right _ q)) (hd a),
  fun b hb => by
   have hA : b ∉ A := fun q => hd b q hb
   rw [Kx_out hA]; exact L.k b (List.mem_append_right _ hb), fun x c hx q => L.c x c hx (List.mem_append_right _ q), fun b o e => by
   have hA : b ∉ A := fun q => by have := L.base b o e; rw [L.k b (List.mem_append_left _ q)] at this; cases this
   rw [Kx_out hA]; exact L.base b o e⟩
theorem LS.comm {A B : List Addr} (L : LS W N K G env wr σ (A ++ B) s) : LS W N K G env wr σ (B ++ A) s := by
 have e1 : Nx N (A ++ B) = Nx N (B ++ A) := by funext a; apply propext; simp only [Nx, List.mem_append]; constructor <;> (intro h; rcases h with h | h | h <;> simp [h])
 have e2 : Kx K s.heap (A ++ B) = Kx K s.heap (B ++ A) := by funext b; unfold Kx; simp only [List.mem_append, Or.comm]
 refine ⟨by rw [← e1, ← e2]; exact L.st, fun b hb => L.live b ?_, fun a ha q => L.n a ha ?_, fun b hb => L.k b ?_, fun x c hx q => L.c x c hx ?_, L.base⟩
 all_goals (simp only [List.mem_append] at *; first | exact hb.symm | exact q.symm)
theorem LS.less {A B : List Addr} {h' : Heap} {tk : Nat} (L : LS W N K G env wr σ (A ++ B) s) (hd : ∀ b ∈ A, b ∉ B) (keep : ∀ b o, b ∉ B → s.heap.get? b = some o → h'.get? b = some o) : LS W N K G env wr σ A { s with heap := h', toks := tk } := by
 have S := (L.part hd).off (h' := h') (tk := tk) keep
 have same : ∀ b ∈ A, h'.get? b = s.heap.get? b := fun b hb => by
  refine o1_1 (L.live b (List.mem_append_left _ hb)) fun o ho => ?_
  rw [ho]; exact keep b o (hd b hb) ho
 have e : Kx K h' A = Kx K s.heap A := by
  funext b
  by_cases hb : b ∈ A
  ·rw [Kx_in hb, Kx_in hb, same b hb]
  ·rw [Kx_out hb, Kx_out hb]
 exact ⟨by rw [e]; exact S, fun b hb => by
  refine o1_1 (L.live b (List.mem_append_left _ hb)) fun o ho => ?_
  exact ⟨o, keep b o (hd b hb) ho⟩, fun a ha q => L.n a ha (List.mem_append_left _ q), fun b hb => L.k b (List.mem_append_left _ hb), fun x c hx q => L.c x c hx (List.mem_append_left _ q), L.base⟩
def VAt (W : Wd) (G : PH) : Expr → PV → Value → Heap → Prop
 | .Tuple _ _ _, p, v, h => ∃ qs T vals, p = .tuple qs ∧ v = .ref T ∧ h.IsTuple T vals ∧ Reps W G qs vals.toList
 | _, p, v, _ => Rep W G p v
structure IterX (W : Wd) (A : Around) (tgt : Expr) (I : Addr) (fp ws : List Addr) (G : PH) (items : List PV) (Stt : Nat → Heap → Prop) : Prop where
 frame : ∀ i h h', Stt i h → (∀ b ∈ fp, ∀ o, h.get? b = some o → h'.get? b = some o) → Stt i h'
 item : ∀ i (s : Shared) (P : Shared → Prop) (Z : Value → Shared → Prop) (E : Value → Shared → Prop), i < items.length → Stt i s.heap →
  (∀ v q h' tk, items[i]? = some q → VAt W G tgt q v h' → Stt (i + 1) h' → (∀ b o, b ∉ ws → s.heap.get? b = some o → h'.get? b = some o) → (∀ b ∈ ws, ∃ o, h'.get? b = some o) → Z v { s with heap := h', toks := tk }) →
  wpAny W.M A (pyNext (.ref I)) (fun r s₁ => match r with | none => P s₁ | some v => wpAny W.M A (letOwnedTupleGo tgt (.ref I) v) (fun _ s₂ => Z v s₂) E s₁) E s
 done : ∀ (s : Shared) (P : Shared → Prop) (Z : Value → Shared → Prop) (E : Value → Shared → Prop), Stt items.length s.heap →
  (∀ h' tk, (∀ b o, b ∉ ws → s.heap.get? b = some o → h'.get? b = some o) → P { s with heap := h', toks := tk }) →
  wpAny W.M A (pyNext (.ref I)) (fun r s₁ => match r with | none => P s₁ | some v => wpAny W.M A (letOwnedTupleGo tgt (.ref I) v) (fun _ s₂ => Z v s₂) E s₁) E s
 self : ∀ i (s : Shared) (Q : Value → Shared → Prop) (E : Value → Shared → Prop), Stt i s.heap → Q (.ref I) s → wpAny W.M A (pyIter (.ref I)) Q E s
 live : ∀ i h, Stt i h → ∀ b ∈ ws, ∃ o, h.get? b = some o
 fp : ∀ b ∈ fp, b ∈ ws ∨ ∃ o, G b = some o
theorem Iter.x {A : Around} {I : Addr} {fp : List Addr} {items : List PV} {Stt : Nat → Heap → Prop} {x : Str} {px : Pos} (X : Iter W A I fp ws G items Stt) : IterX W A (.Name x px) I fp ws G items Stt where
 frame := X.walks.frame
 item := fun i s P Z E hi st hQ => X.walks.item i s _ _ hi st fun v h' tk zz st' keep => o1_2 zz fun q hq hr => wpAny_pure (hQ v q h' tk hq hr st' keep (X.live _ _ st'))
 done := fun s P Z E st hQ => X.walks.done s _ _ st fun h' tk keep => hQ h' tk keep
 self := X.walks.self
 live := X.live
 fp := X.fp
theorem IterT.x {A : Around} {I : Addr} {fp : List Addr} {items : List (List PV)} {Stt : Nat → Heap → Prop} {Mid : Nat → Addr → Heap → Prop} {es : List Expr} {k : Nat} {px : Pos} (X : IterT W A I fp ws G items Stt Mid) : IterX W A (.Tuple es k px) I fp ws G (items.map .tuple) Stt where
 frame := X.walks.frame
 item := fun i s P Z E hi st hQ => X.walks.item i s _ _ (by simpa using hi) st fun T vals h' tk zz hT mid keep => o1_2 zz fun q hq hr => by
  dsimp only
  refine X.walks.go es k px i T _ _ _ mid fun h'' st' keep' => ?_
  refine hQ (.ref T) (.tuple q) h'' tk (by simp [hq]) ⟨q, T, vals, rfl, rfl, ?_, hr⟩ st' (fun b o hb e => keep' b o hb (keep b o hb e)) (X.live _ _ st')
  refine o1_2 hT fun o ho r => ?_; clear hT; exact ⟨o, keep' T o (X.walks.apart i T _ mid) ho, r⟩
 done := fun s P Z E st hQ => X.walks.done s _ _ (by simpa using st) fun h' tk keep => hQ h' tk keep
 self := X.walks.self
 live := X.live
 fp := X.fp
def AsgX (W : Wd) (n : Nat) (env : Env) (wr : List Str) : Expr → PV → Sto → (Sto → Prop) → Prop
 | .Tuple es _ _, p, σ, Φ => ∃ qs, p = .tuple qs ∧ qs.length = es.length ∧ noStar es = true ∧ Asgs W n env wr es qs σ Φ
 | .Name x px, p, σ, Φ => Asg W n env wr (.Name x px) p σ Φ
 | _, _, _, _ => False
theorem AsgX.wp {A : Around} {tgt : Expr} {p : PV} {v : Value} {Φ : Sto → Prop} (R : Room A n) (S : St W N K G env wr σ s) (hv : VAt W G tgt p v s.heap) (h : AsgX W n env wr tgt p σ Φ) : wpAny W.M A (assign tgt env v) (UPost W N K G env wr Φ) NoE s := by
 cases tgt with
 | Tuple es k px =>
  refine o3_4 hv fun qs T vals zd ze hT hr => ?_; clear hv; obtain rfl := zd; obtain rfl := ze
  refine o1_4 h ?_; clear h; intro qs' e hl hn h
  cases e
  exact Asgs.tup R S hT hr hn hl h
 | Name x px => exact h A N K G s v R S hv
 | _ => exact h.elim
inductive XPost (W : Wd) (A : Around) (N : Addr → Prop) (K G : PH) (env : Env) (wr : List Str) (tgt : Expr) (Ψ : List PV → Sto → Prop) (it : Value) (s₂ : Shared) : Prop where
 | mk : ∀ I fp ws Stt G' σ' items, it = .ref I → G.Le G' → IterX W A tgt I fp ws G' items Stt → Stt 0 s₂.heap → LS W N K G' env wr σ' ws s₂ → Ψ items σ' → XPost W A N K G env wr tgt Ψ it s₂
def EvX (W : Wd) (n : Nat) (env : Env) (wr : List Str) (tgt e : Expr) (σ : Sto) (Ψ : List PV → Sto → Prop) : Prop :=
 ∀ A N K G s, Room A n → St W N K G env wr σ s → wpAny W.M A (eval e env) (fun x s₁ => wpAny W.M A (pyIter x) (XPost W A N K G env wr tgt Ψ) NoE s₁) NoE s
theorem EvX.name {x : Str} {px : Pos} {e : Expr} {Ψ : List PV → Sto → Prop} (h : EvI W n env wr e σ Ψ) : EvX W n env wr (.Name x px) e σ Ψ :=
 fun A N K G s R S => wpAny_mono (h A N K G s R S) (fun v s₁ h₁ => wpAny_mono h₁ (fun it s₂ ⟨I, fp, ws, Stt, G', σ', items, e, g, X, st, L, h₂⟩ =>
  ⟨I, fp, ws, Stt, G', σ', items, e, g, X.x, st, L, h₂⟩) fun _ _ x => x) fun _ _ x => x
theorem EvX.tuple {es : List Expr} {k : Nat} {px : Pos} {e : Expr} {Ψ : List PV → Sto → Prop} (h : EvT' W n env wr e σ fun qss σ' => Ψ (qss.map .tuple) σ') : EvX W n env wr (.Tuple es k px) e σ Ψ :=
 fun A N K G s R S => wpAny_mono (h A N K G s R S) (fun v s₁ h₁ => wpAny_mono h₁ (fun it s₂ ⟨I, fp, ws, Stt, Mid, G', σ', items, e, g, X, st, L, h₂⟩ =>
  ⟨I, fp, ws, Stt, G', σ', _, e, g, X.x, st, L, h₂⟩) fun _ _ x => x) fun _ _ x => x
def CTs (W : Wd) (n : Nat) (env : Env) (wr : List Str) : List Expr → Sto → (Bool → Sto → Prop) → Prop
 | [], σ, Φ => Φ true σ
 | [e], σ, Φ => Tst W n env wr e σ Φ
 | _, _, _ => False
theorem CTs.wp {A : Around} {ifs : List Expr} {Φ : Bool → Sto → Prop} (R : Room A n) (S : St W N K G env wr σ s) (h : CTs W n env wr ifs σ Φ) :
  wpAny W.M A (forIn ifs true fun c r => if r = true then do let ok ← isTrue c env (eval c env); pure (ForInStep.yield ok) else pure (ForInStep.yield r)) (TPost W N K G env wr Φ) NoE s := by
 match ifs, h with
 | [], h => exact wpAny_tests_nil ⟨G, σ, PH.Le.refl G, S, h⟩
 | [e], h => exact wpAny_tests_one (h A N K G s R S)
structure CS (W : Wd) (N : Addr → Prop) (K G : PH) (env : Env) (wr : List Str) (σ : Sto) (ws : List Addr) (D : Addr) (acc : List PV) (s : Shared) : Prop where
 ls : LS W N K G env wr σ (ws ++ [D]) s
 out : D ∉ ws
 arr : ∃ arr, s.heap.PlainList D arr ∧ Reps W G acc arr.toList
theorem plain_isList {h : Heap} {D : Addr} {arr : Array Value} (x : h.PlainList D arr) : h.IsList D arr := by
 refine o1_1 x fun k e => ?_; clear x; exact ⟨_, e, rfl, k, rfl⟩
theorem CS.le {G' : PH} {σ' : Sto} {acc : List PV} {D : Addr} {s' : Shared} (C : CS W N K G env wr σ ws D acc s) (g : G.Le G') (S : St W (Nx N (ws ++ [D])) (Kx K s.heap (ws ++ [D])) G' env wr σ' s') : CS W N K G' env wr σ' ws D acc s' := by
 refine ⟨C.ls.body S, C.out, ?_⟩
 refine o1_2 C.arr fun arr zb r => ?_; refine o1_1 zb fun k e => ?_; clear zb
 exact (i1_2 arr ⟨k, C.ls.bodySame S D (by simp) _ e⟩ (Reps.mono g _ _ r))
theorem CS.step {acc : List PV} {D : Addr} {h' : Heap} {tk : Nat} (C : CS W N K G env wr σ ws D acc s) (keep : ∀ b o, b ∉ ws → s.heap.get? b = some o → h'.get? b = some o) (lv : ∀ b ∈ ws, ∃ o, h'.get? b = some o) : CS W N K G env wr σ ws D acc { s with heap := h', toks := tk } := by
 refine o1_2 C.arr fun arr zb r => ?_; refine o1_1 zb fun k e => ?_; clear zb
 refine ⟨C.ls.step (fun b o hb e => keep b o (fun q => hb (List.mem_append_left _ q)) e) (fun b hb => ?_), C.out, arr, ⟨k, keep D _ C.out e⟩, r⟩
 rcases List.mem_append.mp hb with hb | hb
 ·exact lv b hb
 ·rw [List.mem_singleton.mp hb]; exact ⟨_, keep D _ C.out e⟩
theorem plain_of_append {h h' : Heap} {D : Addr} {arr : Array Value} {x : Value} {A : Around} {Q : Value → Shared → Prop} {E : Value → Shared → Prop} {s : Shared} (hl : s.heap.PlainList D arr) (hsz : arr.size ≤ sizeLine)
  (hQ : ∀ h', h'.PlainList D (arr.push x) → Heap.SameBut D s.heap h' → Q .none { s with heap := h' }) : wpAny W.M A (call (.builtin "list.append") [.ref D, x]) Q E s := by
 refine wpAny_list_append_plain hl hQ hsz
end Mine
end
section
open PySem PySem.W PyProof.Rows
namespace Mine
variable {W : Wd} {n : Nat} {env : Env} {wr : List Str} {σ : Sto} {N : Addr → Prop} {K G : PH} {s : Shared} {ws : List Addr}
def compB (W : Wd) (n : Nat) (env : Env) (wr : List Str) (emit : Sto → List PV → (Sto → List PV → Prop) → Prop) (tgt : Expr) (ifs : List Expr) : List PV → Sto → List PV → (Sto → List PV → Prop) → Prop
 | [], σ, acc, Φ => Φ σ acc
 | p :: ps, σ, acc, Φ => AsgX W n env wr tgt p σ fun σ₁ => CTs W n env wr ifs σ₁ fun b σ₂ =>
  if b then emit σ₂ acc fun σ₃ acc' => compB W n env wr emit tgt ifs ps σ₃ acc' Φ else compB W n env wr emit tgt ifs ps σ₂ acc Φ
def EmitOK (W : Wd) (n : Nat) (env : Env) (wr : List Str) (D : Addr) (t : Sem Fin) (code : Code) (emit : Sto → List PV → (Sto → List PV → Prop) → Prop) : Prop :=
 ∀ A N K G ws σ acc s Φ, Room A n → CS W N K G env wr σ ws D acc s → emit σ acc Φ →
  wpAny W.M A t (fun fin s' => fin = .again code ∧ ∃ G' σ' acc', G.Le G' ∧ CS W N K G' env wr σ' ws D acc' s' ∧ (∀ b ∈ ws, ∀ o, s.heap.get? b = some o → s'.heap.get? b = some o) ∧ Φ σ' acc') NoE s
def tailOf (tgt : Expr) (ifs : List Expr) (emitT : Sem Fin) (code : Code) (env : Env) (v : Value) : Sem Fin := do
 assign tgt env v
 let mut ok := true
 for c in ifs do
  if ok then ok ← isTrue c env (eval c env)
 if ok then
  emitT
 else again code
def turnOf (pos : Pos) (it : Value) (tgt : Expr) (ifs : List Expr) (emitT : Sem Fin) (code : Code) (env : Env) : Sem Fin := do
 standAt pos
 match ← pyNext it with
 | none => pure (.done .next)
 | some v =>
  letOwnedTupleGo tgt it v
  tailOf tgt ifs emitT code env v
theorem turn_wp {A : Around} {M : Model} {pos : Pos} {it : Value} {tgt : Expr} {ifs : List Expr} {emitT : Sem Fin} {code : Code} {Q : Fin → Shared → Prop} {E : Value → Shared → Prop}
  (h : wpAny M A (pyNext it) (fun r s₁ => match r with | none => Q (.done .next) s₁ | some v => wpAny M A (letOwnedTupleGo tgt it v) (fun _ s₂ => wpAny M A (tailOf tgt ifs emitT code env v) Q E s₂) E s₁) E s) :
  wpAny M A (turnOf pos it tgt ifs emitT code env) Q E s := by
 unfold turnOf
 refine wpAny_bind (wpAny_standAt (wpAny_bind (wpAny_mono h (fun r s₁ h₁ => ?_) fun _ _ x => x)))
 cases r with
 | none => exact wpAny_pure h₁
 | some v => exact wpAny_bind h₁
theorem IterX.keep {A : Around} {tgt : Expr} {I : Addr} {fp : List Addr} {G₀ G' : PH} {items : List PV} {Stt : Nat → Heap → Prop} {h h' : Heap} {i : Nat} (X : IterX W A tgt I fp ws G₀ items Stt) (g : G₀.Le G') (st : Stt i h) (hin : G₀.In h) (hin' : G'.In h')
  (same : ∀ b ∈ ws, ∀ o, h.get? b = some o → h'.get? b = some o) : Stt i h' :=
 X.frame i h h' st fun b hb o e => by
  rcases X.fp b hb with hw | ⟨o', ho'⟩
  ·exact same b hw o e
  ·have := hin _ _ ho'; rw [e] at this; cases this
   exact hin' _ _ (g _ _ ho')
theorem VAt.mono {G' : PH} {tgt : Expr} {p : PV} {v : Value} {h : Heap} (g : G.Le G') (x : VAt W G tgt p v h) : VAt W G' tgt p v h := by
 cases tgt with
 | Tuple es k px => refine o3_4 x fun qs T vals a b c d => ?_; clear x; exact ⟨qs, T, vals, a, b, c, Reps.mono g _ _ d⟩
 | _ => exact Rep.mono g _ _ x
theorem LS.ge {G' : PH} {σ' : Sto} (g : G.Le G') (S : St W (Nx N ws) (Kx K s.heap ws) G' env wr σ' s) (L : LS W N K G env wr σ ws s) : LS W N K G' env wr σ' ws s := L.body S
inductive CDone (W : Wd) (N : Addr → Prop) (K G : PH) (env : Env) (wr : List Str) (D : Addr) (Φ : Sto → List PV → Prop) (s' : Shared)  : Prop where
 | mk : ∀ G' σ' acc', G.Le G' → CS W N K G' env wr σ' [] D acc' s' → Φ σ' acc' → CDone W N K G env wr D Φ s' 
theorem compLoop_wp {A : Around} {elt : Expr} {gens : List Comprehension} {scope : Scope} {pos ipos : Pos} {d : Nat} {tgt : Expr} {ifs : List Expr} {I D : Addr} {fp : List Addr} {G₀ : PH} {items acc : List PV} {Stt : Nat → Heap → Prop} {emitT : Sem Fin}
  {emit : Sto → List PV → (Sto → List PV → Prop) → Prop} {Φ : Sto → List PV → Prop} (R : Room A n)
  (hturn : compTurn (.ListComp elt gens scope pos) d (.ref I) (.ref D) env = turnOf ipos (.ref I) tgt ifs emitT (.compLoop (.ListComp elt gens scope pos) d (.ref I) (.ref D) env) env)
  (hE : EmitOK W n env wr D emitT (.compLoop (.ListComp elt gens scope pos) d (.ref I) (.ref D) env) emit)
  (X : IterX W A tgt I fp ws G items Stt) (g₀ : G₀.Le G) (C : CS W N K G env wr σ ws D acc s) (st : Stt 0 s.heap) (h : compB W n env wr emit tgt ifs items σ acc Φ) {RR : Result → Shared → Prop}
  (hR : ∀ s', CDone W N K G₀ env wr D Φ s' → (∀ b o, b ∉ ws → b ≠ D → K b = some o → s'.heap.get? b = some o) → RR (.ok .next) s') :
  codeAny W.M A (.compLoop (.ListComp elt gens scope pos) d (.ref I) (.ref D) env) RR s := by
 refine codeAny_loop rfl (fun k s => ∃ i G' σ' acc, k = items.length - i ∧ i ≤ items.length ∧ G.Le G' ∧ CS W N K G' env wr σ' ws D acc s ∧ Stt i s.heap ∧ compB W n env wr emit tgt ifs (items.drop i) σ' acc Φ ∧
   (i < items.length ∨ k = 0)) (fun k s hI => ?_) items.length
  (i4_7 0 G σ acc (by simp) (Nat.zero_le _) (PH.Le.refl G) C st (by simpa using h) (by omega))
 refine o4_7 hI fun i G' σ' acc ze hi g C st h _ => ?_; clear hI; obtain rfl := ze
 show wpAny _ A ((compTurn (.ListComp elt gens scope pos) d (.ref I) (.ref D) env).onRaise (fun x => do noteFrame x env; theTreesLotGoes x)) _ _ s
 refine wpAny_noted ?_
 rw [hturn]
 refine turn_wp ?_
 by_cases hlt : i < items.length
 ·refine X.item i s _ _ _ hlt st fun v q h' tk hq hv st' keep lv => ?_
  unfold tailOf
  have hd : items.drop i = q :: items.drop (i + 1) := drop_item hq
  rw [hd] at h
  have C' := C.step (tk := tk) keep lv
  refine wpAny_bind (toE (bU (AsgX.wp R C'.ls.st (hv.mono g) h) fun _ σ₁ G₁ s₁ g₁ S₁ h₁ => ?_))
  have C₁ := C'.le g₁ S₁
  have st₁ : Stt (i + 1) s₁.heap := X.keep (g.trans g₁) st' (fun a o e => C'.ls.st.gin a o (g a o e)) S₁.gin fun b hb o e => C'.ls.bodySame S₁ b (List.mem_append_left _ hb) o e
  refine wpAny_bind (toE (bT (CTs.wp R C₁.ls.st h₁) fun b σ₂ G₂ s₂ g₂ S₂ h₂ => ?_))
  have C₂ := C₁.le g₂ S₂
  have st₂ : Stt (i + 1) s₂.heap := X.keep ((g.trans g₁).trans g₂) st₁ (fun a o e => S₁.gin a o (g₁ _ _ (g a o e))) S₂.gin fun b hb o e => C₁.ls.bodySame S₂ b (List.mem_append_left _ hb) o e
  have again : ∀ {G₃ σ₃ acc₃ s₃}, G.Le G₃ → CS W N K G₃ env wr σ₃ ws D acc₃ s₃ → Stt (i + 1) s₃.heap → compB W n env wr emit tgt ifs (items.drop (i + 1)) σ₃ acc₃ Φ →
    ∃ m, m < items.length - i ∧ ∃ i G' σ' acc, m = items.length - i ∧ i ≤ items.length ∧ G.Le G' ∧ CS W N K G' env wr σ' ws D acc s₃ ∧ Stt i s₃.heap ∧ compB W n env wr emit tgt ifs (items.drop i) σ' acc Φ ∧ (i < items.length ∨ m = 0) :=
   fun g C st h => (i1_2 (items.length - (i + 1)) (by exact Om.subLt (by assumption)) ⟨i + 1, _, _, _, rfl, hlt, g, C, st, h, by omega⟩)
  cases b with
  | false => exact wpAny_pure ⟨rfl, again ((g.trans g₁).trans g₂) C₂ st₂ h₂⟩
  | true =>
   refine wpAny_mono (hE A N K G₂ ws σ₂ acc s₂ _ R C₂ h₂) (fun fin s₃ zz => o0_2 zz fun ef zz => o3_4 zz fun G₃ σ₃ acc₃ g₃ C₃ same h₃ => ?_) fun _ _ x => x.elim
   subst ef
   have st₃ : Stt (i + 1) s₃.heap := X.keep (((g.trans g₁).trans g₂).trans g₃) st₂ (fun a o e => S₂.gin a o (g₂ _ _ (g₁ _ _ (g a o e)))) C₃.ls.st.gin same
   exact ⟨rfl, again (((g.trans g₁).trans g₂).trans g₃) C₃ st₃ h₃⟩
 ·have e : i = items.length := by exact Nat.le_antisymm (by assumption) (Nat.le_of_not_lt (by assumption))
  subst e
  refine X.done s _ _ _ st fun h' tk keep => ?_
  rw [List.drop_length] at h
  have hDw : ∀ b ∈ [D], b ∉ ws := fun b hb => by rw [List.mem_singleton.mp hb]; exact C.out
  have L' := C.ls.comm.less (h' := h') (tk := tk) hDw keep
  refine o1_2 C.arr fun arr zb r => ?_; refine o1_1 zb fun k e => ?_; clear zb
  refine hR _ ⟨G', σ', acc, g₀.trans g, ⟨L', (by simp), arr, ⟨k, keep D _ C.out e⟩, r⟩, h⟩ fun b o hb hD e => ?_
  exact keep b o hb (C.ls.keepK e).2
theorem compStart_wp {A : Around} {elt : Expr} {gens : List Comprehension} {scope : Scope} {pos : Pos} {d : Nat} {g : Comprehension} {it acc : Value} {R : Result → Shared → Prop} (hg : gens[d]? = some g) (ha : g.is_async = 0)
  (h0 : codeAny W.M A (.compLoop (.ListComp elt gens scope pos) d it acc env) R s)
  (h : wpAny W.M A (pyIter it) (fun it' s' => codeAny W.M A (.compLoop (.ListComp elt gens scope pos) d it' acc env) R s') NoE s) :
  codeAny W.M A (.compStart (.ListComp elt gens scope pos) d it acc env) R s := by
 refine codeAny_of_tree ?_
 show wpAny _ _ ((compStart (.ListComp elt gens scope pos) d it acc env).onRaise (fun x => do noteFrame x env; standAt theWindowsPlace)) _ _ s
 refine wpAny_notedAt (toE ?_)
 unfold compStart
 have hc : ((clausesOf (.ListComp elt gens scope pos))[d]?) = some g := hg
 rw [hc]
 have hb : (some g).elim false (fun x => x.is_async != 0) = false := by simp [ha]
 simp only [hb, Bool.false_eq_true, if_false]
 refine wpAny_bind (wpAny_askSetting (wpAny_ite ?_))
 split
 ·first
   | exact wpAny_bind (wpAny_pure (wpAny_pure (And.intro rfl h0)))
   | exact wpAny_pure (And.intro rfl h0)
 ·first
   | exact wpAny_bind (wpAny_rule (wpAny_bind (wpAny_standAt (wpAny_bind (wpAny_mono h (fun it' s' h' => wpAny_pure (And.intro rfl h')) fun _ _ x => x)))))
   | (refine wpAny_bind (wpAny_rule ?_); exact wpAny_bind (wpAny_standAt (wpAny_bind (wpAny_mono h (fun it' s' h' => wpAny_pure (And.intro rfl h')) fun _ _ x => x))))
def emit1 (W : Wd) (n : Nat) (env : Env) (wr : List Str) (elt : Expr) : Sto → List PV → (Sto → List PV → Prop) → Prop := fun σ acc Φ =>
 acc.length ≤ sizeLine ∧ Ev W n env wr elt σ fun q σ' => Φ σ' (acc ++ [q])
def emitT1 (elt : Expr) (cenv : Env) (D : Addr) (code : Code) : Sem Fin := (do let _ ← call (.builtin "list.append") [.ref D, ← eval elt cenv] : Sem Unit) >>= fun _ => again code
theorem emit1_ok {D : Addr} {elt : Expr} {code : Code} : EmitOK W n env wr D (emitT1 elt env D code) code (emit1 W n env wr elt) := fun A N K G ws σ acc s Φ R C zz => o0_2 zz fun hz h => by
 unfold emitT1
 refine wpAny_bind (wpAny_bind (bE (h A _ _ G s R C.ls.st) fun v q σ₁ G₁ s₁ g₁ S₁ r₁ h₁ => ?_))
 have C₁ := C.le g₁ S₁
 refine o1_2 C₁.arr fun arr hp r => ?_
 have hsz : arr.size ≤ sizeLine := by have := r.length; simp at this; omega
 refine wpAny_bind (wpAny_list_append_plain hp (fun h' hp' hs' => ?_) hsz)
 refine wpAny_pure (wpAny_pure ⟨rfl, G₁, σ₁, acc ++ [q], g₁, ⟨C₁.ls.step (h' := h') (tk := s₁.toks) (fun b o hb e => (hs'.2 b (fun q => hb (by rw [q]; simp))).trans e) (fun b hb => ?_), C₁.out, arr.push v, hp', ?_⟩, fun b hb o e => ?_, h₁⟩)
 ·by_cases q : b = D
  ·rw [q]; refine o1_1 hp' fun k e => ?_; clear hp'; exact ⟨_, e⟩
  ·refine o1_1 (C₁.ls.live b hb) fun o ho => ?_; exact ⟨o, (hs'.2 b q).trans ho⟩
 ·have : ∀ {ps : List PV} {vs : List Value}, Reps W G₁ ps vs → Reps W G₁ (ps ++ [q]) (vs ++ [v]) := by
   intro ps
   induction ps with
   | nil => intro vs h; obtain rfl := h; exact Reps.cons r₁ Reps.nil
   | cons p ps ih => intro vs h; refine o2_3 h fun u r' zc h1 h2 => ?_; clear h; obtain rfl := zc; exact Reps.cons h1 (ih h2)
  rw [Array.toList_push]; exact this r
 ·have ne : b ≠ D := fun q => C.out (q ▸ hb)
  exact (hs'.2 b ne).trans (C.ls.bodySame S₁ b (List.mem_append_left _ hb) o e)
end Mine
end
section
open PySem PySem.W PyProof.Rows
namespace Mine
variable {W : Wd} {n : Nat} {env : Env} {wr : List Str} {σ : Sto} {N : Addr → Prop} {K G : PH} {s : Shared} {ws : List Addr}
theorem cellsFrom_app : ∀ (names : List (Str × NameKind)) (n : Nat) (acc : List (Str × Addr)), cellsFrom n names acc = cellsFrom n names [] ++ acc
 | [], _, _ => rfl
 | (x, k) :: r, n, acc => by
  unfold cellsFrom
  split
  ·rw [cellsFrom_app r (n + 1) ((x, n) :: acc), cellsFrom_app r (n + 1) [(x, n)], List.append_assoc]; rfl
  ·exact cellsFrom_app r n acc
theorem cellsFrom_mem : ∀ (names : List (Str × NameKind)) (n : Nat) {x : Str} {c : Addr}, (x, c) ∈ cellsFrom n names [] → (x, NameKind.cell) ∈ names ∧ n ≤ c
 | [], _, _, _, h => by cases h
 | (y, k) :: r, n, x, c, h => by
  unfold cellsFrom at h
  split at h
  ·rename_i hk
   rw [cellsFrom_app] at h
   rcases List.mem_append.mp h with h | h
   ·refine o0_2 (cellsFrom_mem r (n + 1) h) fun a b => ?_
    exact ⟨List.mem_cons_of_mem _ a, Nat.le_of_succ_le b⟩
   ·have e : (x, c) = (y, n) := by simpa using h
    cases e
    have : k = .cell := by simpa using hk
    exact ⟨by rw [this]; exact List.mem_cons_self, Nat.le_refl _⟩
  ·refine o0_2 (cellsFrom_mem r n h) fun a b => ?_
   exact ⟨List.mem_cons_of_mem _ a, b⟩
theorem cellsFrom_lookup {names : List (Str × NameKind)} {n : Nat} {cl : List (Str × Addr)} {x : Str} {c : Addr} (h : (cellsFrom n names cl).lookup x = some c) :
  ((x, c) ∈ cellsFrom n names []) ∨ (cl.lookup x = some c) := by
 rw [cellsFrom_app, List.lookup_append] at h
 cases e : (cellsFrom n names []).lookup x with
 | some c' => rw [e] at h; cases h; exact .inl (mem_of_lookup e)
 | none => rw [e] at h; exact .inr h
theorem cellsFrom_free {names : List (Str × NameKind)} {n : Nat} {cl : List (Str × Addr)} {x : Str} (h : (x, NameKind.cell) ∉ names) : (cellsFrom n names cl).lookup x = cl.lookup x := by
 rw [cellsFrom_app, List.lookup_append]
 cases e : (cellsFrom n names []).lookup x with
 | some c => exact absurd (cellsFrom_mem _ _ (mem_of_lookup e)).1 h
 | none => rfl
def closCells : List (Str × NameKind) → List (Str × Addr) → List (Str × Addr) → Option (List (Str × Addr))
 | [], _, acc => some acc
 | (x, k) :: r, cells, acc => if k == .free then (cells.lookup x).bind fun c => closCells r cells ((x, c) :: acc) else closCells r cells acc
theorem closureFor_loop {cells cl : List (Str × Addr)} (hcells : env.cells = cells) (f : Str × NameKind → List (Str × Addr) → Sem (ForInStep (List (Str × Addr))))
  (hf : ∀ name kind cs, f (name, kind) cs = if (kind == .free) = true then (do let c ← cellOf env name; pure (ForInStep.yield ((name, c) :: cs))) else pure (ForInStep.yield cs)) :
  ∀ (names : List (Str × NameKind)) (acc : List (Str × Addr)), closCells names cells acc = some cl → forIn names acc f = pure cl
 | [], acc, h => by cases h; rfl
 | (y, k) :: r, acc, h => by
  rw [List.forIn_cons, hf]
  unfold closCells at h
  split at h
  ·rename_i hk
   cases e : cells.lookup y with
   | none => rw [e] at h; cases h
   | some c =>
    rw [e] at h
    have hc : cellOf env y = pure c := by unfold cellOf; rw [hcells, e]
    rw [if_pos hk, hc]
    exact closureFor_loop hcells f hf r _ h
  ·rename_i hk
   rw [if_neg hk]
   exact closureFor_loop hcells f hf r _ h
theorem closureFor_of {scope : Scope} {cl : List (Str × Addr)} (h : closCells scope.names env.cells [] = some cl) : closureFor scope env = pure cl := by
 simp only [closureFor]
 rw [closureFor_loop (cl := cl) rfl _ (fun name kind cs => by cases hk : kind == NameKind.free <;> simp) scope.names [] h]
 rfl
theorem closCells_lookup : ∀ {names : List (Str × NameKind)} {cells acc cl : List (Str × Addr)} {x : Str} {c : Addr}, closCells names cells acc = some cl → cl.lookup x = some c → acc.lookup x = some c ∨ (cells.lookup x = some c)
 | [], _, _, _, _, _, h, e => by cases h; exact .inl e
 | (y, k) :: r, cells, acc, cl, x, c, h, e => by
  unfold closCells at h
  split at h
  ·cases q : cells.lookup y with
   | none => rw [q] at h; cases h
   | some c' =>
    rw [q] at h
    rcases closCells_lookup (cl := cl) h e with h' | h'
    ·rw [List.lookup_cons] at h'
     split at h'
     ·rename_i hb
      have : x = y := by simpa using hb
      subst this; cases h'; exact .inr q
     ·exact .inl h'
    ·exact .inr h'
  ·exact closCells_lookup h e
theorem closCells_has : ∀ {names : List (Str × NameKind)} {cells acc cl : List (Str × Addr)} {x : Str}, closCells names cells acc = some cl → ((x, NameKind.free) ∈ names ∨ (acc.lookup x).isSome) → (cl.lookup x).isSome
 | [], _, _, _, _, h, e => by cases h; rcases e with e | e; cases e; exact e
 | (y, k) :: r, cells, acc, cl, x, h, e => by
  unfold closCells at h
  split at h
  ·rename_i hk
   cases q : cells.lookup y with
   | none => rw [q] at h; cases h
   | some c' =>
    rw [q] at h
    refine closCells_has (cl := cl) h ?_
    rcases e with e | e
    ·rcases List.mem_cons.mp e with e | e
     ·cases e; right; simp
     ·exact .inl e
    ·right; rw [List.lookup_cons]; split
     ·rfl
     ·exact e
  ·rename_i hk
   refine closCells_has (cl := cl) h ?_
   rcases e with e | e
   ·rcases List.mem_cons.mp e with e | e
    ·cases e; simp at hk
    ·exact .inl e
   ·exact .inr e
theorem wpAny_newCompEnv {A : Around} {M : Model} {E : Value → Shared → Prop} {scope : Scope} {globals : Addr} {cl : List (Str × Addr)} {qual : Str} {outer : Env} {Q : Env → Shared → Prop}
  (hQ : Q { scope, locals := s.heap.objs.size, globals, cells := cellsFrom (s.heap.objs.size + 1) scope.names cl, qual, func := none, code := outer.code, frame := outer.frame, builtins := outer.builtins }
   { s with heap := pushCells (s.heap.push { cls := .type "dict", data := .dict #[] }) scope.names }) :
  wpAny M A (newFunctionEnv scope globals cl [] qual none .none (some outer)) Q E s := by
 simp only [newFunctionEnv, Option.isSome_some, if_true]
 refine wpAny_bind (wpAny_alloc ?_)
 refine wpAny_bind (wpAny_layCells _ (fun name kind cells => by cases hkc : kind == NameKind.cell <;> simp [hkc]) _ _ _ _ ?_)
 rw [show ({ s with heap := s.heap.push { cls := .type "dict", data := .dict #[] } } : Shared).heap.objs.size = s.heap.objs.size + 1 from Heap.size_push ..]
 rw [List.forIn_nil]
 exact wpAny_bind (wpAny_pure (wpAny_pure hQ))
abbrev envK (scope : Scope) (cl : List (Str × Addr)) (C : Addr) (env : Env) : Env := compEnvC scope (cellsFrom (C + 1) scope.names cl) C env
theorem lookup_relabel {env : Env} : ∀ {names : List (Str × NameKind)} {x : Str} {k : NameKind}, names.lookup x = some k →
  (names.map fun (n, k) => if (k == NameKind.free && env.scope.kind == .function && env.kindOf n == some .cell) then (n, NameKind.cell) else (n, k)).lookup x = some k ∨
  (k = .free ∧ (names.map fun (n, k) => if (k == NameKind.free && env.scope.kind == .function && env.kindOf n == some .cell) then (n, NameKind.cell) else (n, k)).lookup x = some .cell)
 | [], _, _, h => by simp at h
 | (y, k') :: r, x, k, h => by
  rw [List.lookup_cons] at h
  show List.lookup x ((if (k' == NameKind.free && env.scope.kind == .function && env.kindOf y == some .cell) = true then (y, NameKind.cell) else (y, k')) :: _) = _ ∨ (_ ∧ List.lookup x ((if (k' == NameKind.free && env.scope.kind == .function && env.kindOf y == some .cell) = true then (y, NameKind.cell) else (y, k')) :: _) = _)
  cases hb : x == y with
  | true =>
   rw [hb] at h
   have hk : k' = k := Option.some.inj h
   subst hk
   by_cases hc : (k' == NameKind.free && env.scope.kind == .function && env.kindOf y == some .cell) = true
   ·right
    rw [if_pos hc, List.lookup_cons, hb]
    simp only [Bool.and_eq_true, beq_iff_eq] at hc
    exact ⟨hc.1.1, rfl⟩
   ·left
    rw [if_neg hc, List.lookup_cons, hb]
  | false =>
   rw [hb] at h
   have ih := lookup_relabel (env := env) h
   have e : ∀ z, List.lookup x ((if (k' == NameKind.free && env.scope.kind == .function && env.kindOf y == some .cell) = true then (y, NameKind.cell) else (y, k')) :: z) = List.lookup x z := fun z => by
    split <;> rw [List.lookup_cons, hb]
   rw [e]; exact ih
end Mine
end
section
open PySem PySem.W PyProof.Rows
namespace Mine
variable {W : Wd} {n : Nat} {env : Env} {wr : List Str} {σ : Sto} {N : Addr → Prop} {K G : PH} {s : Shared} {ws : List Addr}
theorem lookup_map_fz : ∀ {cap : List (Str × PV)} {x : Str} {sv : SV}, (cap.map fun x => (x.1, SV.fz x.2)).lookup x = some sv → ∃ p, sv = .fz p ∧ (x, p) ∈ cap
 | (y, p) :: r, x, sv, h => by
  rw [List.map_cons, List.lookup_cons] at h
  cases hb : x == y with
  | true =>
   rw [hb] at h; cases h
   have e : x = y := by simpa using hb
   exact (i1_2 p rfl (by rw [e]; exact List.mem_cons_self))
  | false =>
   rw [hb] at h
   refine o1_2 (lookup_map_fz h) fun q e m => ?_
   exact (i1_2 q e (List.mem_cons_of_mem _ m))
theorem comp_core {A : Around} {elt : Expr} {gens : List Comprehension} {scope : Scope} {pos ipos : Pos} {tgt : Expr} {ifs : List Expr} {I : Addr} {fp : List Addr} {items : List PV} {Stt : Nat → Heap → Prop} {cl : List (Str × Addr)} {cap : List (Str × PV)}
  {emitT : Addr → Addr → Sem Fin} {emit : Addr → Sto → List PV → (Sto → List PV → Prop) → Prop} {Φ : List PV → Prop} {g : Comprehension}
  (R : Room A n) (L : LS W N K G env wr σ ws s) (X : IterX W A tgt I fp ws G items Stt) (st : Stt 0 s.heap)
  (hcl : closCells scope.names env.cells [] = some cl) (hkind : scope.kind = .function)
  (hcap : ∀ x p, (x, p) ∈ cap → σ.lookup x = some (.fz p) ∧ scope.names.lookup x = some .free ∧ env.kindOf x ≠ some .local)
  (hcellN : ∀ x, (x, NameKind.cell) ∈ scope.names → scope.names.lookup x = some .cell)
  (hturn : ∀ C D, compTurn (.ListComp elt gens scope pos) 0 (.ref I) (.ref D) (envK scope cl C env) =
   turnOf ipos (.ref I) tgt ifs (emitT C D) (.compLoop (.ListComp elt gens scope pos) 0 (.ref I) (.ref D) (envK scope cl C env)) (envK scope cl C env))
  (hE : ∀ C D, EmitOK W n (envK scope cl C env) (cellNames scope) D (emitT C D) (.compLoop (.ListComp elt gens scope pos) 0 (.ref I) (.ref D) (envK scope cl C env)) (emit C))
  (hg : gens[0]? = some g) (ha : g.is_async = 0)
  (h : ∀ C, compB W n (envK scope cl C env) (cellNames scope) (emit C) tgt ifs items (cap.map fun x => (x.1, SV.fz x.2)) [] fun _ acc => Φ acc)
  {RR : Value → Addr → Result → Shared → Prop}
  (hRR : ∀ D C G' acc arr m s', G.Le G' → St W N K G' env wr σ s' → s'.heap.PlainList D arr → Reps W G' acc arr.toList → Φ acc → s'.heap.Ns C m → Own N K G' env D → Own N K G' env C → D ≠ C →
   (∀ x c, env.cells.lookup x = some c → c ≠ C ∧ c ≠ D) → (∀ x sv v, σ.lookup x = some sv → sv.owned = true → Holds s'.heap env x v → v ≠ .ref C ∧ v ≠ .ref D) → RR (.ref D) C (.ok .next) s') :
  wpAny W.M A (newList []) (fun acc s₃ => wpAny W.M A (newFunctionEnv scope env.globals cl [] env.qual none .none (some env)) (fun cenv s₄ =>
   codeAny W.M A (.compStart (.ListComp elt gens scope pos) 0 (.ref I) acc { cenv with scope := relabel scope env }) (RR acc cenv.locals) s₄) NoE s₃) NoE s := by
 refine wpAny_newList ?_ (by simp)
 refine wpAny_newCompEnv ?_
 generalize hH3 : s.heap.push { cls := .type "list", data := .seq ([] : List Value).toArray } = H3
 have hC : H3.objs.size = s.heap.objs.size + 1 := by rw [← hH3, Heap.size_push]
 -- the addresses
 have hnew : ∀ a : Nat, s.heap.objs.size ≤ a → s.heap.get? a = none := fun a ha => by
  cases e : s.heap.get? a with
  | none => rfl
  | some o => exact absurd (Heap.lt_size e) (Nat.not_lt.mpr ha)
 generalize hD : s.heap.objs.size = D at *
 generalize hCC : H3.objs.size = C at *
 have hDC : D ≠ C := by exact Om.succNe (by assumption)
 generalize hH4 : H3.push { cls := .type "dict", data := .dict #[] } = H4
 have k3 : HLeF s.heap H3 := hH3 ▸ HLeF.push _ _
 have k4 : HLeF H3 H4 := hH4 ▸ HLeF.push _ _
 generalize hH5 : pushCells H4 scope.names = H5
 have k5 : HLeF H4 H5 := fun b o e => hH5 ▸ pushCells_keeps _ _ b o e
 have k35 : HLeF s.heap H5 := (k3.trans k4).trans k5
 have dD : H5.PlainList D #[] := ⟨0, k5 _ _ (k4 _ _ (by rw [← hH3, ← hD]; exact Heap.get?_push_size _ rfl))⟩
 have dC : H5.Ns C fun _ => none := by
  refine ⟨{ cls := .type "dict", data := .dict #[] }, #[], 0, k5 _ _ (by rw [← hH4, ← hCC]; exact Heap.get?_push_size _ rfl), rfl, ?_, fun _ => rfl⟩
  intro e he; simp at he
 have hH4s : H4.objs.size = C + 1 := by rw [← hH4, Heap.size_push, hCC]
 have cok : CellsOk H5 (C + 1) (cellsFrom (C + 1) scope.names []) := by
  have := cellsFrom_ok scope.names H4 (C + 1) [] ⟨fun _ _ hm => (nomatch hm), List.Pairwise.nil⟩ (by omega)
  rw [hH4s, hH5] at this; exact this
 have gNone : ∀ a : Nat, D ≤ a → G a = none := fun a ha => by
  cases e : G a with
  | none => rfl
  | some o => have := L.st.gin _ _ e; rw [hnew a ha] at this; cases this
 have liveLt : ∀ {a : Nat} {o}, s.heap.get? a = some o → a < D := fun e => hD ▸ Heap.lt_size e
 have wsLt : ∀ b : Nat, b ∈ ws → b < D := fun b hb => o1_1 (L.live b hb) fun o e => liveLt e
 have DnW : D ∉ ws := fun q => Nat.lt_irrefl _ (wsLt D q)
 have CnW : C ∉ ws := fun q => by have := wsLt C q; omega
 -- the heap without the iterators
 generalize hhh : hideAll s.heap ws = hh
 have hh1 : ∀ {b o}, hh.get? b = some o → s.heap.get? b = some o ∧ b ∉ ws := fun {b o} e => by
  rw [← hhh] at e
  exact ⟨of_hideAll _ e, fun q => by rw [hideAll_none _ q] at e; cases e⟩
 have hh2 : ∀ {b o}, s.heap.get? b = some o → b ∉ ws → hh.get? b = some o := fun {b o} e q => hhh ▸ hideAll_get _ e q
 have S' : St W N K G env wr σ { s with heap := hh, toks := s.toks } := L.off fun b o hb e => hh2 e hb
 have envEq : ({ scope, locals := C, globals := env.globals, cells := cellsFrom (C + 1) scope.names cl, qual := env.qual, func := none, code := env.code, frame := env.frame, builtins := env.builtins } : Env) = { envK scope cl C env with scope := scope } := rfl
 -- names of the comprehension
 have cellLook : ∀ {x c}, (envK scope cl C env).cells.lookup x = some c → ((x, c) ∈ cellsFrom (C + 1) scope.names []) ∨ (env.cells.lookup x = some c) := fun {x c} e => by
  rcases cellsFrom_lookup e with e | e
  ·exact .inl e
  ·rcases closCells_lookup hcl e with e | e
   ·cases e
   ·exact .inr e
 have cellLive : ∀ {x c}, (envK scope cl C env).cells.lookup x = some c → (∃ o, H5.get? c = some o) ∧ c ∉ ws ++ [D] ∧ c ≠ C := fun {x c} e => by
  rcases cellLook e with e | e
  ·refine o0_2 (cok.empty _ _ e) fun a b => ?_
   refine o1_2 a fun o ho _ => ?_; clear a
   replace b : C + 1 ≤ (c : Nat) := b
   refine ⟨⟨o, ho⟩, fun q => ?_, Nat.ne_of_gt b⟩
   rcases List.mem_append.mp q with q | q
   ·have := wsLt _ q; exact Om.succF' hC b this
   ·rw [List.mem_singleton.mp q] at b; omega
  ·refine o1_1 (L.st.live _ _ e) fun o ho => ?_
   have := liveLt ho
   refine ⟨⟨o, k35 _ _ ho⟩, fun q => ?_, Nat.ne_of_lt (Nat.lt_of_lt_of_le this (by exact Om.succEq (by assumption)))⟩
   rcases List.mem_append.mp q with q | q
   ·exact L.c _ _ e q
   ·rw [List.mem_singleton.mp q] at this; exact Nat.lt_irrefl _ (by assumption)
 have plH : fresh G hh W.P := by refine o2_2 S'.sd.ps fun o _ e _ => ?_; exact ⟨⟨o, e⟩, S'.gP⟩
 have pD : (W.P : Nat) < D := by refine o2_2 L.st.sd.ps fun o _ e _ => ?_; exact liveLt e
 have pW : W.P ∉ ws ++ [D] := fun q => by
  rcases List.mem_append.mp q with q | q
  ·exact L.nP q
  ·rw [List.mem_singleton.mp q] at pD; exact absurd pD (Nat.lt_irrefl _)
 have inLS : LS W (fresh G hh) (W.mask hh) G (envK scope cl C env) (cellNames scope) (cap.map fun x => (x.1, SV.fz x.2)) (ws ++ [D]) { s with heap := H5 } := by
  have lv : ∀ b ∈ ws ++ [D], ∃ o, H5.get? b = some o := fun b hb => by
   rcases List.mem_append.mp hb with hb | hb
   ·refine o1_1 (L.live b hb) fun o e => ?_; exact ⟨o, k35 _ _ e⟩
   ·rw [List.mem_singleton.mp hb]; refine o1_1 dD fun k e => ?_; clear dD; exact ⟨_, e⟩
  have kn : ∀ b ∈ ws ++ [D], hh.get? b = none := fun b hb => by
   cases e : hh.get? b with
   | none => rfl
   | some o =>
    refine o0_2 (hh1 e) fun a1 a2 => ?_
    rcases List.mem_append.mp hb with hb | hb
    ·exact absurd hb a2
    ·rw [List.mem_singleton.mp hb] at a1; rw [hnew D (Nat.le_refl _)] at a1; cases a1
  have base0 : ∀ b o, W.h₀.get? b = some o → hh.get? b = some o := fun b o e => S'.kin b o (S'.base b o e)
  have base : ∀ b o, W.h₀.get? b = some o → W.mask hh b = some o := fun b o e => W.mask_of (W.neP e) (base0 b o e)
  refine ⟨⟨⟨?_, L.st.ok.globals, fun x y c e e' => ?_, L.st.ok.frame⟩, fun b o e => ?_, fun b o e => ?_, fun a o e => k35 _ _ (L.st.gin a o e), fun a ha => ?_, ⟨_, dC⟩, ?_, fun x hx => ?_, fun x sv hx => ?_, fun x y sx sy v hx hy ox oy _ _ => ?_, fun x c e => (cellLive e).1, L.st.os, L.st.gens, ⟨.inl plH, by rw [Kx_out pW]; exact if_pos rfl, fun q => ?_, fun x c e q => ?_, L.st.sd.ps.keep fun o e => k35 _ _ e⟩⟩,
   lv, fun a ha q => ?_, fun b hb => W.mask_none (kn b hb), fun x c e => (cellLive e).2.1, base⟩
  ·show (relabel scope env).kind = .function
   exact hkind
  ·rcases cellLook e with e | e <;> rcases cellLook e' with e' | e'
   ·exact name_of_addr cok.apart e e'
   ·refine o0_2 (cok.empty _ _ e) fun _ b => ?_
    refine o1_1 (L.st.live _ _ e') fun o ho => ?_
    replace b : C + 1 ≤ (c : Nat) := b
    have := liveLt ho; exact (Om.succF' hC b this).elim
   ·refine o0_2 (cok.empty _ _ e') fun _ b => ?_
    refine o1_1 (L.st.live _ _ e) fun o ho => ?_
    replace b : C + 1 ≤ (c : Nat) := b
    have := liveLt ho; exact (Om.succF' hC b this).elim
   ·exact L.st.ok.apart x y c e e'
  ·have e1 := base0 b o e
   have hb : b ∉ ws ++ [D] := fun q => by rw [kn b q] at e1; cases e1
   rw [Kx_out hb]; exact base b o e
  ·by_cases hb : b ∈ ws ++ [D]
   ·rwa [Kx_in hb] at e
   ·rw [Kx_out hb] at e; exact k35 _ _ (hh1 (W.of_mask e)).1
  ·rcases ha with ⟨⟨o, e⟩, hg⟩ | ha
   ·exact ⟨⟨o, k35 _ _ (hh1 e).1⟩, hg⟩
   ·refine ⟨lv a ha, ?_⟩
    rcases List.mem_append.mp ha with ha | ha
    ·exact L.gw a ha
    ·rw [List.mem_singleton.mp ha]; exact gNone D (Nat.le_refl _)
  ·have : C ∉ ws ++ [D] := fun q => by
    rcases List.mem_append.mp q with q | q
    ·exact CnW q
    ·exact hDC (List.mem_singleton.mp q).symm
   refine ⟨?_, gNone C (by exact Om.succEq (by assumption))⟩
   show Kx (W.mask hh) H5 (ws ++ [D]) C = none
   rw [Kx_out this]
   refine W.mask_none ?_
   cases e : hh.get? C with
   | none => rfl
   | some o => have := liveLt (hh1 e).1; omega
  ·have hm : (x, NameKind.cell) ∈ scope.names := by
    unfold cellNames at hx
    refine o1_2 (List.mem_map.mp hx) fun za h1 h2 => ?_; obtain ⟨y, k⟩ := za
    refine o0_2 (List.mem_filter.mp h1) fun h3 h4 => ?_
    have : k = .cell := by simpa using h4
    subst this; subst h2; exact h3
   have hl := hcellN x hm
   refine o1_1 (Option.isSome_iff_exists.mp (cellsFrom_has scope.names (C + 1) [] x (.inr hm))) fun c e => ?_
   have e' : (cellsFrom (C + 1) scope.names cl).lookup x = some c := by rw [cellsFrom_app, List.lookup_append, e]; rfl
   refine o0_2 (cok.empty _ _ (mem_of_lookup e)) fun a b => ?_
   replace b : C + 1 ≤ (c : Nat) := b
   refine (i2_5 c none ?_ e' a ?_ (gNone c (by exact Om.succLe3 (by assumption) (by assumption))))
   ·rcases lookup_relabel (env := env) hl with q | ⟨q, _⟩
    ·exact q
    ·cases q
   ·rw [Kx_out (cellLive e').2.1]
    refine W.mask_none ?_
    cases q : hh.get? c with
    | none => rfl
    | some o => have := liveLt (hh1 q).1; exact (Om.succF' hC b this).elim
  ·refine o1_2 (lookup_map_fz hx) fun p zb hm => ?_; obtain rfl := zb
   refine o0_3 (hcap x p hm) fun h1 h2 h3 => ?_
   refine o1_2 (L.st.vars x _ h1) fun v hv hr => ?_
   refine (i1_2 v ?_ hr)
   have hkf : (envK scope cl C env).kindOf x = some .cell ∨ (envK scope cl C env).kindOf x = some .free := by
    rcases lookup_relabel (env := env) h2 with q | ⟨_, q⟩
    ·exact .inr q
    ·exact .inl q
   have hnc : (x, NameKind.cell) ∉ scope.names := fun q => by rw [hcellN x q] at h2; cases h2
   have hcc : (cellsFrom (C + 1) scope.names cl).lookup x = cl.lookup x := cellsFrom_free hnc
   refine o1_1 (Option.isSome_iff_exists.mp (closCells_has (cl := cl) hcl (.inl (mem_of_lookup h2)))) fun c ec => ?_
   have e2 : env.cells.lookup x = some c := by
    rcases closCells_lookup hcl ec with q | q
    ·cases q
    ·exact q
   rcases hv with ⟨a, m, _, _⟩ | ⟨a, c', b1, b2⟩
   ·exact absurd a h3
   ·rw [e2] at b1; cases b1
    exact .inr ⟨hkf, c, by show (cellsFrom (C + 1) scope.names cl).lookup x = some c; rw [hcc]; exact ec, b2.keeps k35⟩
  ·refine o1_2 (lookup_map_fz hx) fun p zb _ => ?_; obtain rfl := zb; cases ox
  ·have q : C = W.P := q
   have hlt : (W.P : Nat) < C := Nat.lt_of_lt_of_le pD (by exact Om.succEq (by assumption))
   exact absurd (show (W.P : Nat) = C from q.symm) (Nat.ne_of_lt hlt)
  ·rcases cellLook e with e | e
   ·refine o0_2 (cok.empty _ _ e) fun _ b => ?_
    replace b : C + 1 ≤ (c : Nat) := b
    have hlt : (W.P : Nat) < c := Nat.lt_of_lt_of_le pD (by exact Om.succLe3 (by assumption) (by assumption))
    exact absurd (show (W.P : Nat) = c from q.symm) (Nat.ne_of_lt hlt)
   ·exact L.st.sd.cP x c e q
  ·refine o1_1 ha.1 fun o e => ?_
   rw [kn a q] at e; cases e
 -- the loop
 have loop : codeAny W.M A (.compLoop (.ListComp elt gens scope pos) 0 (.ref I) (.ref D) (envK scope cl C env)) (RR (.ref D) C) { s with heap := H5 } := by
  refine compLoop_wp (G₀ := G) (N := fresh G hh) (K := W.mask hh) R (hturn C D) (hE C D) X (PH.Le.refl G) ⟨inLS, DnW, #[], dD, Reps.nil⟩ ?_ (h C) fun s' hd keep => ?_
  ·exact X.keep (PH.Le.refl G) st L.st.gin (fun a o e => k35 _ _ (L.st.gin a o e)) fun b _ o e => k35 _ _ e
  obtain ⟨G', σ', acc', g', CC, hΦ⟩ := hd
  refine o1_2 CC.arr fun arr hp hr => ?_
  have Lf := CC.ls
  have keepH : HLe W hh s'.heap := fun b o n e => (Lf.keepK (W.mask_of n e)).2
  have So : St W N K G' env wr σ s' := S'.grow ⟨fun b o e => keepH _ _ (W.neP e) (S'.kin b o (S'.base b o e)), Lf.st.gin, fun a ha => Lf.st.nok a (.inl ha), Lf.st.os, Lf.st.gens, plH, Lf.st.sd.ps⟩ g' keepH
  refine o1_1 Lf.st.ns fun m hm => ?_
  have gD : G' D = none := Lf.gw D (by simp)
  have gC : G' C = none := Lf.st.lk.2
  have own : ∀ a : Nat, D ≤ a → G' a = none → Own N K G' env a := fun a ha hg => by
   have h0 := hnew a ha
   refine ⟨?_, hg, fun q => ?_, fun q => ?_⟩
   ·cases e : K a with
    | none => rfl
    | some o => have := (L.keepK e).2; rw [h0] at this; cases this
   ·refine o0_2 (S'.nok a q) fun za _ => ?_; refine o1_1 za fun o e => ?_; clear za
    have := (hh1 e).1; rw [h0] at this; cases this
   ·refine o4_2 S'.ns fun m o es ep e _ => ?_
    have := (hh1 e).1; rw [← q, h0] at this; cases this
  refine hRR D C G' acc' arr m s' g' So hp hr hΦ hm (own D (Nat.le_refl _) gD) (own C (by exact Om.succEq (by assumption)) gC) hDC (fun x c e => ?_) fun x sv v hx ho hv => ?_
  ·refine o1_1 (S'.live x c e) fun o ho => ?_
   have h0 := (hh1 ho).1
   exact ⟨fun q => (by rw [q, hnew C (by exact Om.succEq (by assumption))] at h0; cases h0), fun q => (by rw [q, hnew D (Nat.le_refl _)] at h0; cases h0)⟩
  ·refine o1_2 (S'.vars x sv hx) fun v' h1 h2 => ?_
   have e := (h1.mono keepH S'.sd.lP S'.sd.cP).fn hv
   subst e
   have live : ∃ a o, v' = .ref a ∧ hh.get? a = some o := by
    cases sv with
    | fz p => cases ho
    | ol c xs => obtain ⟨a, o, vs, n, e, k1, _⟩ := h2; exact (i2_2 a o e k1)
    | od c es => obtain ⟨a, o, kvs, e, k1, _⟩ := h2; exact (i2_2 a o e k1)
   refine o2_2 live fun a o e k1 => ?_; clear live
   have h0 := (hh1 k1).1
   refine ⟨fun q => ?_, fun q => ?_⟩
   ·rw [e] at q; cases q; rw [hnew C (by exact Om.succEq (by assumption))] at h0; cases h0
   ·rw [e] at q; cases q; rw [hnew D (Nat.le_refl _)] at h0; cases h0
 refine compStart_wp hg ha loop (X.self 0 _ _ _ ?_ loop)
 exact X.keep (PH.Le.refl G) st L.st.gin (fun a o e => k35 _ _ (L.st.gin a o e)) fun b _ o e => k35 _ _ e
end Mine
end
section
open PySem PySem.W PyProof.Rows
namespace Mine
variable {W : Wd} {n : Nat} {env : Env} {wr : List Str} {σ : Sto} {N : Addr → Prop} {K G : PH} {s : Shared} {ws : List Addr}
theorem turn1 {elt tgt iter : Expr} {ifs : List Expr} {scope : Scope} {pos : Pos} {I D : Addr} {cenv : Env} :
  compTurn (.ListComp elt [⟨tgt, iter, ifs, 0⟩] scope pos) 0 (.ref I) (.ref D) cenv =
   turnOf iter.pos (.ref I) tgt ifs (emitT1 elt cenv D (.compLoop (.ListComp elt [⟨tgt, iter, ifs, 0⟩] scope pos) 0 (.ref I) (.ref D) cenv)) (.compLoop (.ListComp elt [⟨tgt, iter, ifs, 0⟩] scope pos) 0 (.ref I) (.ref D) cenv) cenv := by rfl
def emitT2 (e : Expr) (iter : Expr) (cenv : Env) (D : Addr) (code : Code) : Sem Fin := do
 let x ← eval iter cenv
 standAt iter.pos
 let x ← foldedSetIterable iter cenv x
 let _ ← runOwn (.compStart e 1 (← holding [x] (pyIter x)) (.ref D) cenv) cenv
 again code
theorem turn2 {elt tgt iter tgt2 iter2 : Expr} {ifs ifs2 : List Expr} {scope : Scope} {pos : Pos} {I D : Addr} {cenv : Env} :
  compTurn (.ListComp elt [⟨tgt, iter, ifs, 0⟩, ⟨tgt2, iter2, ifs2, 0⟩] scope pos) 0 (.ref I) (.ref D) cenv =
   turnOf iter.pos (.ref I) tgt ifs (emitT2 (.ListComp elt [⟨tgt, iter, ifs, 0⟩, ⟨tgt2, iter2, ifs2, 0⟩] scope pos) iter2 cenv D (.compLoop (.ListComp elt [⟨tgt, iter, ifs, 0⟩, ⟨tgt2, iter2, ifs2, 0⟩] scope pos) 0 (.ref I) (.ref D) cenv))
    (.compLoop (.ListComp elt [⟨tgt, iter, ifs, 0⟩, ⟨tgt2, iter2, ifs2, 0⟩] scope pos) 0 (.ref I) (.ref D) cenv) cenv := by rfl
theorem turn2b {elt tgt iter tgt2 iter2 : Expr} {ifs ifs2 : List Expr} {scope : Scope} {pos : Pos} {I D : Addr} {cenv : Env} :
  compTurn (.ListComp elt [⟨tgt, iter, ifs, 0⟩, ⟨tgt2, iter2, ifs2, 0⟩] scope pos) 1 (.ref I) (.ref D) cenv =
   turnOf iter2.pos (.ref I) tgt2 ifs2 (emitT1 elt cenv D (.compLoop (.ListComp elt [⟨tgt, iter, ifs, 0⟩, ⟨tgt2, iter2, ifs2, 0⟩] scope pos) 1 (.ref I) (.ref D) cenv))
    (.compLoop (.ListComp elt [⟨tgt, iter, ifs, 0⟩, ⟨tgt2, iter2, ifs2, 0⟩] scope pos) 1 (.ref I) (.ref D) cenv) cenv := by rfl
def emit2 (W : Wd) (n : Nat) (env : Env) (wr : List Str) (elt tgt2 iter2 : Expr) (ifs2 : List Expr) : Sto → List PV → (Sto → List PV → Prop) → Prop := fun σ acc Φ =>
 EvX W n env wr tgt2 iter2 σ fun items σ' => compB W n env wr (emit1 W n env wr elt) tgt2 ifs2 items σ' acc Φ
theorem emit2_ok {D : Addr} {elt tgt iter tgt2 iter2 : Expr} {ifs ifs2 : List Expr} {scope : Scope} {pos : Pos} {code : Code} (hs : ∀ x, foldedSetIterable iter2 env x = pure x) :
  EmitOK W n env wr D (emitT2 (.ListComp elt [⟨tgt, iter, ifs, 0⟩, ⟨tgt2, iter2, ifs2, 0⟩] scope pos) iter2 env D code) code (emit2 W n env wr elt tgt2 iter2 ifs2) := fun A N K G ws σ acc s Φ R C h => by
 unfold emitT2
 have L := C.ls
 refine o1_2 C.arr fun arr hp hr => ?_
 have hDl : D ∈ ws ++ [D] := by simp
 have baseW : ∀ b o, W.h₀.get? b = some o → Kx K s.heap ws b = some o := fun b o e => by
  have e1 := L.base b o e
  have hb : b ∉ ws := fun q => by rw [L.k b (List.mem_append_left _ q)] at e1; cases e1
  rw [Kx_out hb]; exact e1
 refine wpAny_bind (wpAny_mono (h A _ _ G s R L.st) (fun x s₁ h₁ => ?_) fun _ _ x => x)
 refine wpAny_bind (wpAny_standAt (wpAny_bind (wpAny_of_eq (hs x) (wpAny_bind (wpAny_holding ?_)))))
 refine wpAny_mono h₁ (fun it s₂ ⟨I, fp, ws₂, Stt, G₁, σ₁, items, e, g, X, st, L₂, h₂⟩ => ?_) fun _ _ x => x
 subst e
 have LJ : LS W (Nx N ws) (Kx K s.heap ws) G₁ env wr σ₁ (ws₂ ++ [D]) s₂ := by
  have L₂' : LS W (Nx (Nx N ws) [D]) (Kx (Kx K s.heap ws) s.heap [D]) G₁ env wr σ₁ ws₂ s₂ := by rw [Nx_app, Kx_app (fun _ _ => rfl)]; exact L₂
  refine (L₂'.join (fun b hb => ?_) (fun a ha q => ?_) (fun b hb => ?_) (fun x c hx q => ?_) baseW).comm
  ·rw [List.mem_singleton.mp hb]; exact L.live D hDl
  ·have e := List.mem_singleton.mp q
   rcases ha with ha | ha
   ·exact L.n a ha (by rw [e]; exact hDl)
   ·exact C.out (e ▸ ha)
  ·have e := List.mem_singleton.mp hb
   rw [e, Kx_out C.out]; exact L.k D hDl
  ·exact L.c x c hx (by rw [List.mem_singleton.mp q]; exact hDl)
 have outD : D ∉ ws₂ := L₂.n D (.inr hDl)
 have arr₂ : s₂.heap.PlainList D arr := by
  refine o1_1 hp fun k e => ?_; clear hp
  exact ⟨k, (L₂.keepK (b := D) (by rw [Kx_in hDl]; exact e)).2⟩
 have loop : codeAny W.M A (.compLoop (.ListComp elt [⟨tgt, iter, ifs, 0⟩, ⟨tgt2, iter2, ifs2, 0⟩] scope pos) 1 (.ref I) (.ref D) env)
   (fun r s' => match r with
    | .ok f => wpAny W.M A (again code) (fun fin s' => fin = .again code ∧ ∃ G' σ' acc', G.Le G' ∧ CS W N K G' env wr σ' ws D acc' s' ∧ (∀ b ∈ ws, ∀ o, s.heap.get? b = some o → s'.heap.get? b = some o) ∧ Φ σ' acc') NoE s'
    | .error e => cameBackBy W.M A env NoE e s') s₂ := by
  refine compLoop_wp (G₀ := G₁) (acc := acc) R turn2b emit1_ok X (PH.Le.refl _) ⟨LJ, outD, arr, arr₂, Reps.mono g _ _ hr⟩ st h₂ fun s' ⟨G₂, σ₂, acc₂, g₂, C₂, h₃⟩ keep => ?_
  refine wpAny_pure ⟨rfl, G₂, σ₂, acc₂, g.trans g₂, ⟨?_, C.out, C₂.arr⟩, fun b hb o e => ?_, h₃⟩
  ·have L₃ : LS W (Nx N ws) (Kx K s.heap ws) G₂ env wr σ₂ [D] s' := C₂.ls
   exact L₃.join (fun b hb => L.live b (List.mem_append_left _ hb)) (fun a ha q => L.n a ha (List.mem_append_left _ q)) (fun b hb => L.k b (List.mem_append_left _ hb)) (fun x c hx q => L.c x c hx (List.mem_append_left _ q)) L.base
  ·exact (C₂.ls.keepK (b := b) (by rw [Kx_in hb]; exact e)).2
 exact wpAny_bind (wpAny_runOwn (compStart_wp (g := ⟨tgt2, iter2, ifs2, 0⟩) rfl rfl loop (X.self 0 _ _ _ st loop)))
structure Cap (env : Env) (scope : Scope) (σ : Sto) (cap : List (Str × PV)) : Prop where
 look : ∀ x p, (x, p) ∈ cap → σ.lookup x = some (.fz p) ∧ scope.names.lookup x = some .free ∧ env.kindOf x ≠ some .local
structure CompSc (env : Env) (scope : Scope) (cl : List (Str × Addr)) : Prop where
 cl : closCells scope.names env.cells [] = some cl
 kind : scope.kind = .function
 names : ∀ x ∈ scope.names, x.2 = .local → scope.names.lookup x.1 = some .local
 cells : ∀ x, (x, NameKind.cell) ∈ scope.names → scope.names.lookup x = some .cell
theorem St.offC {C : Addr} {h' : Heap} {tk : Nat} {m : Str → Option Value} (S : St W N K G env wr σ s) (hC : s.heap.Ns C m) (oC : Own N K G env C) (hc : ∀ x c, env.cells.lookup x = some c → c ≠ C)
  (hs : Heap.SameBut C s.heap h') (hown : ∀ x sv v, σ.lookup x = some sv → sv.owned = true → Holds s.heap env x v → v ≠ .ref C) : St W N K G env wr σ { s with heap := h', toks := tk } :=
 S.swap (ws := [C]) (hPN := S.sd.pl) (hPK := S.sd.kP) (hPw := fun q => oC.n (List.mem_singleton.mp q ▸ S.sd.pl)) (fun b o e => (hs.2 b (fun q => by rw [q, oC.k] at e; cases e)).trans (S.kin b o e)) S.base (fun _ _ h => h)
  (fun a ha => by
   refine o0_2 (S.nok a ha) fun za g => ?_; refine o1_1 za fun o e => ?_; clear za
   exact ⟨⟨o, (hs.2 a (fun q => oC.n (q ▸ ha))).trans e⟩, g⟩) (fun _ _ h => h)
  (fun b hb => by rw [List.mem_singleton.mp hb]; exact oC.g) (fun q => oC.l (List.mem_singleton.mp q).symm) (fun x c e q => hc x c e (List.mem_singleton.mp q))
  (fun x sv v b hx ho h _ hb => by rw [List.mem_singleton.mp hb]; exact hown x sv v hx ho h)
  (fun b o hb e => (hs.2 b (fun q => hb (by rw [q]; simp))).trans e) rfl rfl
theorem St.addG {D : Addr} {o : Obj} (S : St W N K G env wr σ s) (oD : Own N K G env D) (e : s.heap.get? D = some o) (hc : ∀ x c, env.cells.lookup x = some c → c ≠ D)
  (hown : ∀ x sv v, σ.lookup x = some sv → sv.owned = true → Holds s.heap env x v → v ≠ .ref D) : St W N K (G.add D o) env wr σ s := by
 have le := PH.Le.add (o := o) oD.g
 refine ⟨S.ok, S.base, S.kin, S.gin.add e, fun b hb => ?_, S.ns, ⟨S.lk.1, by rw [PH.add_ne _ _ (Ne.symm oD.l)]; exact S.lk.2⟩, fun z hz => ?_, fun y sy hy => ?_, S.apart, S.live, S.os, S.gens, S.sd⟩
 ·refine o0_2 (S.nok b hb) fun p q => ?_
  exact ⟨p, by rw [PH.add_ne _ _ (fun (r : b = D) => oD.n (r ▸ hb))]; exact q⟩
 ·refine o2_5 (S.cells z hz) fun c u k1 k2 k3 k4 k5 => ?_
  exact (i2_5 c u k1 k2 k3 k4 (by rw [PH.add_ne _ _ (hc _ _ k2)]; exact k5))
 ·refine o1_2 (S.vars y sy hy) fun u k1 k2 => ?_
  refine (i1_2 u k1 ?_)
  have hw := hown y sy u hy
  cases sy with
  | fz p => exact Rep.mono le _ _ k2
  | ol c xs =>
   have hw := hw rfl k1
   obtain ⟨b, o', vs, n, e', j1, j2, j3, j4, j5⟩ := k2
   have hne : b ≠ D := fun r => hw (by rw [e', r])
   exact ⟨b, o', vs, n, e', j1, j2, j3, Reps.mono le _ _ j4, ⟨⟨j5.k, by rw [PH.add_ne _ _ hne]; exact j5.g, j5.n, j5.l⟩, j5.at_⟩⟩
  | od c es =>
   have hw := hw rfl k1
   obtain ⟨b, o', kvs, e', j1, j2, j3, j4, j5⟩ := k2
   have hne : b ≠ D := fun r => hw (by rw [e', r])
   exact ⟨b, o', kvs, e', j1, j2, j3, RepKV.mono le _ _ j4, ⟨⟨j5.k, by rw [PH.add_ne _ _ hne]; exact j5.g, j5.n, j5.l⟩, j5.at_⟩⟩
theorem Ev.compG {elt : Expr} {tgt iter : Expr} {ifs : List Expr} {rest : List Comprehension} {scope : Scope} {pos : Pos} {cl : List (Str × Addr)} {Ψ : PV → Sto → Prop}
  {emitT : Env → Addr → Code → Sem Fin} {emit : Env → Sto → List PV → (Sto → List PV → Prop) → Prop}
  (hsc : CompSc env scope cl)
  (hturn : ∀ I D cenv, compTurn (.ListComp elt (⟨tgt, iter, ifs, 0⟩ :: rest) scope pos) 0 (.ref I) (.ref D) cenv = turnOf iter.pos (.ref I) tgt ifs (emitT cenv D (.compLoop (.ListComp elt (⟨tgt, iter, ifs, 0⟩ :: rest) scope pos) 0 (.ref I) (.ref D) cenv)) (.compLoop (.ListComp elt (⟨tgt, iter, ifs, 0⟩ :: rest) scope pos) 0 (.ref I) (.ref D) cenv) cenv)
  (hE : ∀ C D code, EmitOK W n (envK scope cl C env) (cellNames scope) D (emitT (envK scope cl C env) D code) code (emit (envK scope cl C env)))
  (h : EvX W n env wr tgt iter σ fun items σ₁ => ∃ cap, Cap env scope σ₁ cap ∧ ∀ C, compB W n (envK scope cl C env) (cellNames scope) (emit (envK scope cl C env)) tgt ifs items (cap.map fun x => (x.1, SV.fz x.2)) [] fun _ acc => Ψ (.list acc) σ₁)
  (hs : ∀ x, foldedSetIterable iter env x = pure x := by intro _; with_unfolding_all rfl) :
  Ev W n env wr (.ListComp elt (⟨tgt, iter, ifs, 0⟩ :: rest) scope pos) σ Ψ := fun A N K G s R S => by
 rw [eval_ListComp]
 refine wpAny_comprehension_free (use := none) rfl hs (closureFor_of hsc.cl) hsc.kind hsc.names ?_
 refine wpAny_mono (h A N K G s R S) (fun x s₁ h₁ => wpAny_mono h₁ (fun it s₂ ⟨I, fp, ws, Stt, G₁, σ₁, items, e, g, X, st, L, cap, hcap, h₂⟩ => ?_) fun _ _ x => x) fun _ _ x => x
 subst e
 refine comp_core (RR := fun acc C => compPost W.M A NoE none (EPost W N K G env wr Ψ) acc C) (g := ⟨tgt, iter, ifs, 0⟩) R L X st hsc.cl hsc.kind hcap.look hsc.cells (fun C D => hturn I D _) (fun C D => hE C D _) rfl rfl h₂ ?_
 intro D C G' acc arr m s' g' S' hp hr hΨ hm oD oC hDC hcc how
 refine ⟨m, hm, fun h' hs' => ?_⟩
 refine o1_1 hp fun k e => ?_; clear hp
 have S₁ := S'.addG oD e (fun x c e => (hcc x c e).2) fun x sv v hx ho hv => (how x sv v hx ho hv).2
 have le := PH.Le.add (o := { cls := .type "list", data := .seq arr k }) oD.g
 have S₂ : St W N K (G'.add D { cls := .type "list", data := .seq arr k }) env wr σ₁ { s' with heap := h' } :=
  S₁.offC (tk := s'.toks) hm ⟨oC.k, by rw [PH.add_ne _ _ (Ne.symm hDC)]; exact oC.g, oC.n, oC.l⟩ (fun x c e => (hcc x c e).1) hs' fun x sv v hx ho hv => (how x sv v hx ho hv).1
 exact ⟨_, .list acc, σ₁, (g.trans g').trans le, S₂, by exact i4_5 D _ arr k rfl (PH.add_self ..) rfl rfl (Reps.mono le _ _ hr), hΨ⟩
theorem Ex1.compG {elt : Expr} {tgt iter : Expr} {ifs : List Expr} {rest : List Comprehension} {scope : Scope} {pos spos : Pos} {cl : List (Str × Addr)} {x : Str} {px : Pos} {Φ : PF → Sto → Prop}
  {emitT : Env → Addr → Code → Sem Fin} {emit : Env → Sto → List PV → (Sto → List PV → Prop) → Prop} (own : Bool)
  (hw : Writable env wr x) (hsw : swapsWith (.ListComp elt (⟨tgt, iter, ifs, 0⟩ :: rest) scope pos) (some (Expr.Name x px)) spos.line env = pure true)
  (hsc : CompSc env scope cl)
  (hturn : ∀ I D cenv, compTurn (.ListComp elt (⟨tgt, iter, ifs, 0⟩ :: rest) scope pos) 0 (.ref I) (.ref D) cenv = turnOf iter.pos (.ref I) tgt ifs (emitT cenv D (.compLoop (.ListComp elt (⟨tgt, iter, ifs, 0⟩ :: rest) scope pos) 0 (.ref I) (.ref D) cenv)) (.compLoop (.ListComp elt (⟨tgt, iter, ifs, 0⟩ :: rest) scope pos) 0 (.ref I) (.ref D) cenv) cenv)
  (hE : ∀ C D code, EmitOK W n (envK scope cl C env) (cellNames scope) D (emitT (envK scope cl C env) D code) code (emit (envK scope cl C env)))
  (h : EvX W n env wr tgt iter σ fun items σ₁ => ∃ cap, Cap env scope σ₁ cap ∧ ∀ C, compB W n (envK scope cl C env) (cellNames scope) (emit (envK scope cl C env)) tgt ifs items (cap.map fun x => (x.1, SV.fz x.2)) []
   fun _ acc => ∀ c, Φ .next (σ₁.put x (if own then .ol c acc else .fz (.list acc))))
  (hs : ∀ x, foldedSetIterable iter env x = pure x := by intro _; with_unfolding_all rfl) :
  Ex1 W n env wr (.Assign [.Name x px] (.ListComp elt (⟨tgt, iter, ifs, 0⟩ :: rest) scope pos) spos) σ Φ := fun A N K G s R S => by
 rw [exec_Assign_Name_used _ _ _ _ hsw]
 refine wpAny_bind (wpAny_standAt (wpAny_bind ?_))
 show wpAny _ A (do let _ ← comprehension (.ListComp elt (⟨tgt, iter, ifs, 0⟩ :: rest) scope pos) scope env _ (newList []) false (eval iter env) (some (PySem.assign (.Name x px) env))) _ _ s
 refine wpAny_bind (wpAny_mono (wpAny_comprehension_free (use := some (PySem.assign (.Name x px) env)) (Q := fun _ s' => FPost W N K G env wr Φ .next s') rfl hs (closureFor_of hsc.cl) hsc.kind hsc.names
  (wpAny_mono (h A N K G s R S) (fun y s₁ h₁ => wpAny_mono h₁ (fun it s₂ ⟨I, fp, ws, Stt, G₁, σ₁, items, e, g, X, st, L, cap, hcap, h₂⟩ => ?_) fun _ _ x => x) fun _ _ x => x)) (fun _ s' hq => wpAny_pure (wpAny_pure hq)) fun _ _ x => x)
 subst e
 refine comp_core (RR := fun acc C => compPost W.M A NoE (some (PySem.assign (.Name x px) env)) (fun _ s' => FPost W N K G env wr Φ .next s') acc C) (g := ⟨tgt, iter, ifs, 0⟩) R L X st hsc.cl hsc.kind hcap.look hsc.cells (fun C D => hturn I D _) (fun C D => hE C D _) rfl rfl h₂ ?_
 intro D C G' acc arr m s' g' S' hp hr hΦ hm oD oC hDC hcc how
 show wpAny W.M A (PySem.assign (.Name x px) env (.ref D)) _ _ s'
 refine o1_1 hp fun k e => ?_; clear hp
 refine wpAny_assign_Name ?_
 -- after the store
 have fin : ∀ (G₂ : PH) (sv : SV) (s₁ s₂ : Shared), s₁.heap = s'.heap → G'.Le G₂ → St W N K G₂ env wr (σ₁.put x sv) s₂ → Stored W K G₂ env x (.ref D) s₁ s₂ → G₂ C = none → Φ .next (σ₁.put x sv) →
   ∃ m, s₂.heap.Ns C m ∧ ∀ h', Heap.SameBut C s₂.heap h' → FPost W N K G env wr Φ .next { s₂ with heap := h' } := fun G₂ sv s₁ s₂ e₁ g₂ S₂ T gC hΦ₂ => by
  refine o1_2 T.same fun b hb hb' => ?_
  have hbC : C ≠ b := by
   rcases hb' with q | ⟨z, q⟩
   ·rw [q]; exact oC.l
   ·exact Ne.symm (hcc z b q).1
  have hm₂ : s₂.heap.Ns C m := (e₁ ▸ hm : s₁.heap.Ns C m).sameBut hb hbC
  refine (i1_2 m hm₂ (fun h' hs' => ⟨G₂, .next, _, (g.trans g').trans g₂, S₂.offC (tk := s₂.toks) hm₂ ⟨oC.k, gC, oC.n, oC.l⟩ (fun x c e => (hcc x c e).1) hs' fun y sy v hy ho hv => ?_, rfl, hΦ₂⟩))
  by_cases q : y = x
  ·subst q
   have := hv.fn T.here; subst this
   intro q'; cases q'; exact hDC rfl
  ·rw [Sto.put_ne _ q] at hy
   refine o1_2 (S'.vars y sy hy) fun v' h1 _ => ?_
   have := (T.other y v' q (e₁ ▸ h1)).fn hv; subst this
   exact (how y sy v' hy ho h1).1
 cases own with
 | false =>
  have S₁ := S'.addG oD e (fun x c e => (hcc x c e).2) fun x sv v hx ho hv => (how x sv v hx ho hv).2
  have le := PH.Le.add (o := { cls := .type "list", data := .seq arr k }) oD.g
  refine S₁.store' (sv := .fz (.list acc)) hw (by show Rep _ _ _ _; exact i4_5 D _ arr k rfl (PH.add_self ..) rfl rfl (Reps.mono le _ _ hr)) (fun q => by cases q) fun s₂ S₂ T => ?_
  exact fin _ _ s' s₂ rfl le S₂ T (by rw [PH.add_ne _ _ (Ne.symm hDC)]; exact oC.g) (hΦ D)
 | true =>
  refine S'.store' (sv := .ol D acc) hw ⟨D, _, arr, k, rfl, e, rfl, rfl, hr, ⟨oD, rfl⟩⟩ (fun _ y sy hy hx ho hv => (how y sy _ hx ho hv).2 rfl) fun s₂ S₂ T => ?_
  exact fin _ _ s' s₂ rfl (PH.Le.refl _) S₂ T oC.g (hΦ D)
theorem Ev.comp1 {elt tgt iter : Expr} {ifs : List Expr} {scope : Scope} {pos : Pos} {cl : List (Str × Addr)} {Ψ : PV → Sto → Prop} (hsc : CompSc env scope cl)
  (h : EvX W n env wr tgt iter σ fun items σ₁ => ∃ cap, Cap env scope σ₁ cap ∧ ∀ C, compB W n (envK scope cl C env) (cellNames scope) (emit1 W n (envK scope cl C env) (cellNames scope) elt) tgt ifs items (cap.map fun x => (x.1, SV.fz x.2)) [] fun _ acc => Ψ (.list acc) σ₁)
  (hs : ∀ x, foldedSetIterable iter env x = pure x := by intro _; with_unfolding_all rfl) : Ev W n env wr (.ListComp elt [⟨tgt, iter, ifs, 0⟩] scope pos) σ Ψ :=
 Ev.compG (emit := fun cenv => emit1 W n cenv (cellNames scope) elt) hsc (fun _ _ _ => turn1) (fun _ _ _ => emit1_ok) h hs
theorem Ev.comp2 {elt tgt iter tgt2 iter2 : Expr} {ifs ifs2 : List Expr} {scope : Scope} {pos : Pos} {cl : List (Str × Addr)} {Ψ : PV → Sto → Prop} (hsc : CompSc env scope cl)
  (h : EvX W n env wr tgt iter σ fun items σ₁ => ∃ cap, Cap env scope σ₁ cap ∧ ∀ C, compB W n (envK scope cl C env) (cellNames scope) (emit2 W n (envK scope cl C env) (cellNames scope) elt tgt2 iter2 ifs2) tgt ifs items (cap.map fun x => (x.1, SV.fz x.2)) [] fun _ acc => Ψ (.list acc) σ₁)
  (hs : ∀ x, foldedSetIterable iter env x = pure x := by intro _; with_unfolding_all rfl) (hs2 : ∀ env x, foldedSetIterable iter2 env x = pure x := by intro _ _; with_unfolding_all rfl) : Ev W n env wr (.ListComp elt [⟨tgt, iter, ifs, 0⟩, ⟨tgt2, iter2, ifs2, 0⟩] scope pos) σ Ψ :=
 Ev.compG (emit := fun cenv => emit2 W n cenv (cellNames scope) elt tgt2 iter2 ifs2) hsc (fun _ _ _ => turn2) (fun _ _ _ => emit2_ok (hs2 _)) h hs
theorem Ex1.comp1 {elt tgt iter : Expr} {ifs : List Expr} {scope : Scope} {pos spos : Pos} {cl : List (Str × Addr)} {x : Str} {px : Pos} {Φ : PF → Sto → Prop} (own : Bool) (hw : Writable env wr x)
  (hsw : swapsWith (.ListComp elt [⟨tgt, iter, ifs, 0⟩] scope pos) (some (Expr.Name x px)) spos.line env = pure true) (hsc : CompSc env scope cl)
  (h : EvX W n env wr tgt iter σ fun items σ₁ => ∃ cap, Cap env scope σ₁ cap ∧ ∀ C, compB W n (envK scope cl C env) (cellNames scope) (emit1 W n (envK scope cl C env) (cellNames scope) elt) tgt ifs items (cap.map fun x => (x.1, SV.fz x.2)) []
   fun _ acc => ∀ c, Φ .next (σ₁.put x (if own then .ol c acc else .fz (.list acc))))
  (hs : ∀ x, foldedSetIterable iter env x = pure x := by intro _; with_unfolding_all rfl) : Ex1 W n env wr (.Assign [.Name x px] (.ListComp elt [⟨tgt, iter, ifs, 0⟩] scope pos) spos) σ Φ :=
 Ex1.compG (emit := fun cenv => emit1 W n cenv (cellNames scope) elt) own hw hsw hsc (fun _ _ _ => turn1) (fun _ _ _ => emit1_ok) h hs
end Mine
end
section
open PySem PySem.W PyProof.Rows PySem.Calls
namespace Mine
variable {W : Wd} {n : Nat} {env : Env} {wr : List Str} {σ : Sto} {N : Addr → Prop} {K G : PH} {s : Shared}
theorem VPost.same {Ψ : PV → Prop} {v : Value} {p : PV} (H : Hp W N G s) (r : Rep W G p v) (h : Ψ p) : VPost W N G s Ψ v s := ⟨G, p, PH.Le.refl G, H, HLe.refl _ _, r, h⟩
theorem VPost.tok {Ψ : PV → Prop} {v : Value} {p : PV} {k : Nat} (H : Hp W N G s) (r : Rep W G p v) (h : Ψ p) : VPost W N G s Ψ v { s with toks := k } := ⟨G, p, PH.Le.refl G, H.tok k, HLe.refl _ _, r, h⟩
theorem Rep.i {i : Int} {t : Tok} : Rep W G (.int i) (.int i t) := (Exists.intro _ rfl)
theorem Rep.st {x : Str} {t : Tok} : Rep W G (.str x) (.str x t) := (Exists.intro _ rfl)
theorem Rep.by {b : Array UInt8} {t : Tok} : Rep W G (.bytes b) (.bytes b t) := (Exists.intro _ rfl)
theorem Rep.b {b : Bool} : Rep W G (.bool b) (.bool b) := rfl
theorem Rep.int_inv {i : Int} {v : Value} (h : Rep W G (.int i) v) : ∃ t, v = .int i t := h
theorem Rep.str_inv {x : Str} {v : Value} (h : Rep W G (.str x) v) : ∃ t, v = .str x t := h
theorem Rep.bytes_inv {x : Array UInt8} {v : Value} (h : Rep W G (.bytes x) v) : ∃ t, v = .bytes x t := h
inductive SeqRep (W : Wd) (G : PH) (T : String) (xs : List PV) (v : Value) : Prop where
 | mk : ∀ a o vs n, v = .ref a → G a = some o → o.cls = .type T → o.data = .seq vs n → Reps W G xs vs.toList → SeqRep W G T xs v
inductive DictRep (W : Wd) (G : PH) (es : List (Str × PV)) (v : Value) : Prop where
 | mk : ∀ a o kvs, v = .ref a → G a = some o → o.IsDictOf W.knd kvs → (a == sysModules) = false → RepKV W G es kvs → DictRep W G es v
theorem Rep.list_inv {xs : List PV} {v : Value} (h : Rep W G (.list xs) v) : SeqRep W G "list" xs v := by refine o4_5 h fun a o vs n p q r s t => ?_; clear h; exact ⟨a, o, vs, n, p, q, r, s, t⟩
theorem Rep.tup_inv {xs : List PV} {v : Value} (h : Rep W G (.tuple xs) v) : SeqRep W G "tuple" xs v := by refine o4_5 h fun a o vs n p q r s t => ?_; clear h; exact ⟨a, o, vs, n, p, q, r, s, t⟩
theorem Rep.dict_inv {es : List (Str × PV)} {v : Value} (h : Rep W G (.dict es) v) : DictRep W G es v := by refine o3_5 h fun a o kvs p q r s t => ?_; clear h; exact ⟨a, o, kvs, p, q, r, s, t⟩
theorem Rep.obj_inv {c : String} {fs : List PV} {v : Value} (h : Rep W G (.obj c fs) v) : ∃ a vs, v = .ref a ∧ G a = some { cls := .type c, data := .fields vs } ∧ Reps W G fs vs.toList := h
theorem Rep.val_inv {u v : Value} (h : Rep W G (.val u) v) : v = u := h
theorem Rep.none_inv {v : Value} (h : Rep W G .none v) : v = .none := h
theorem Rep.bool_inv {b : Bool} {v : Value} (h : Rep W G (.bool b) v) : v = .bool b := h
theorem BinP.addI {a b : Int} {Ψ : PV → Prop} (h : Ψ (.int (a + b))) : BinP W n .Add (.int a) (.int b) Ψ := fun A N G s x y R H rx ry => by
 refine o1_1 rx.int_inv fun t zb => ?_; obtain rfl := zb; refine o1_1 ry.int_inv fun u zb => ?_; obtain rfl := zb
 exact add_int (VPost.tok H Rep.i h)
theorem BinP.subI {a b : Int} {Ψ : PV → Prop} (h : Ψ (.int (a - b))) : BinP W n .Sub (.int a) (.int b) Ψ := fun A N G s x y R H rx ry => by
 refine o1_1 rx.int_inv fun t zb => ?_; obtain rfl := zb; refine o1_1 ry.int_inv fun u zb => ?_; obtain rfl := zb
 exact sub_int (VPost.tok H Rep.i h)
theorem IopP.addI {a b : Int} {Ψ : PV → Prop} (h : Ψ (.int (a + b))) : IopP W n .Add (.int a) (.int b) Ψ := fun A N G s x y R H rx ry => by
 refine o1_1 rx.int_inv fun t zb => ?_; obtain rfl := zb; refine o1_1 ry.int_inv fun u zb => ?_; obtain rfl := zb
 exact iadd_int (VPost.tok H Rep.i h)
theorem BinP.mulI {a b : Int} {Ψ : PV → Prop} (hab : IntMulOk a b) (h : Ψ (.int (a * b))) : BinP W n .Mult (.int a) (.int b) Ψ := fun A N G s x y R H rx ry => by
 refine o1_1 rx.int_inv fun t zb => ?_; obtain rfl := zb; refine o1_1 ry.int_inv fun u zb => ?_; obtain rfl := zb
 exact mul_int (VPost.tok H Rep.i h) hab
theorem BinP.modI {a b : Int} {Ψ : PV → Prop} (hb : b ≠ 0) (h : Ψ (.int (a.fmod b))) : BinP W n .Mod (.int a) (.int b) Ψ := fun A N G s x y R H rx ry => by
 refine o1_1 rx.int_inv fun t zb => ?_; obtain rfl := zb; refine o1_1 ry.int_inv fun u zb => ?_; obtain rfl := zb
 exact mod_int' hb (VPost.tok H Rep.i h)
theorem BinP.divI {a b : Int} {Ψ : PV → Prop} (hb : b ≠ 0) (hs : b.natAbs.log2 < 9000) (h : Ψ (.int (a.fdiv b))) : BinP W n .FloorDiv (.int a) (.int b) Ψ := fun A N G s x y R H rx ry => by
 refine o1_1 rx.int_inv fun t zb => ?_; obtain rfl := zb; refine o1_1 ry.int_inv fun u zb => ?_; obtain rfl := zb
 exact floordiv_int hb (VPost.tok H Rep.i h) (Or.inl (PyProof.noPylong_of_log2 hs))
theorem BinP.powI {a b : Int} {Ψ : PV → Prop} (h0 : 0 ≤ b) (h1 : b ≤ 1000000) (h2 : a.natAbs < 2 ^ 64) (h : Ψ (.int (a ^ b.toNat))) : BinP W n .Pow (.int a) (.int b) Ψ := fun A N G s x y R H rx ry => by
 refine o1_1 rx.int_inv fun t zb => ?_; obtain rfl := zb; refine o1_1 ry.int_inv fun u zb => ?_; obtain rfl := zb
 exact pow_int_small h0 h1 h2 (VPost.tok H Rep.i h)
theorem UnP.negI {a : Int} {Ψ : PV → Prop} (h : Ψ (.int (-a))) : UnP W n .USub (.int a) Ψ := fun A N G s x R H rx => by
 refine o1_1 rx.int_inv fun t zb => ?_; obtain rfl := zb
 exact neg_int (VPost.tok H Rep.i h)
theorem CmpP.ltI {a b : Int} {Ψ : PV → Prop} (h : Ψ (.bool (decide (a < b)))) : CmpP W n .Lt (.int a) (.int b) Ψ := fun A N G s x y R H rx ry => by
 refine o1_1 rx.int_inv fun t zb => ?_; obtain rfl := zb; refine o1_1 ry.int_inv fun u zb => ?_; obtain rfl := zb
 exact lt_int (VPost.same H Rep.b h)
theorem CmpP.gtI {a b : Int} {Ψ : PV → Prop} (h : Ψ (.bool (decide (b < a)))) : CmpP W n .Gt (.int a) (.int b) Ψ := fun A N G s x y R H rx ry => by
 refine o1_1 rx.int_inv fun t zb => ?_; obtain rfl := zb; refine o1_1 ry.int_inv fun u zb => ?_; obtain rfl := zb
 exact gt_int (VPost.same H Rep.b h)
theorem CmpP.geI {a b : Int} {Ψ : PV → Prop} (h : Ψ (.bool (decide (b ≤ a)))) : CmpP W n .GtE (.int a) (.int b) Ψ := fun A N G s x y R H rx ry => by
 refine o1_1 rx.int_inv fun t zb => ?_; obtain rfl := zb; refine o1_1 ry.int_inv fun u zb => ?_; obtain rfl := zb
 exact ge_int (VPost.same H Rep.b h)
theorem CmpP.eqI {a b : Int} {Ψ : PV → Prop} (h : Ψ (.bool (a == b))) : CmpP W n .Eq (.int a) (.int b) Ψ := fun A N G s x y R H rx ry => by
 refine o1_1 rx.int_inv fun t zb => ?_; obtain rfl := zb; refine o1_1 ry.int_inv fun u zb => ?_; obtain rfl := zb
 exact eq_int (VPost.same H Rep.b h)
theorem CmpP.neI {a b : Int} {Ψ : PV → Prop} (h : Ψ (.bool (a != b))) : CmpP W n .NotEq (.int a) (.int b) Ψ := fun A N G s x y R H rx ry => by
 refine o1_1 rx.int_inv fun t zb => ?_; obtain rfl := zb; refine o1_1 ry.int_inv fun u zb => ?_; obtain rfl := zb
 exact ne_int (VPost.same H Rep.b h)
theorem BinP.addS {a b : Str} {Ψ : PV → Prop} (hs : a.length + b.length ≤ 16777216) (h : Ψ (.str (a ++ b))) : BinP W n .Add (.str a) (.str b) Ψ := fun A N G s x y R H rx ry => by
 refine o1_1 rx.str_inv fun t zb => ?_; obtain rfl := zb; refine o1_1 ry.str_inv fun u zb => ?_; obtain rfl := zb
 exact KXadd.add (Nat.le_refl _) (Nat.le_refl _) hs fun t' k _ => VPost.tok H Rep.st h
theorem BinP.addB {a b : Array UInt8} {Ψ : PV → Prop} (hs : a.size + b.size ≤ 16777216) (h : Ψ (.bytes (a ++ b))) : BinP W n .Add (.bytes a) (.bytes b) Ψ := fun A N G s x y R H rx ry => by
 refine o1_1 rx.bytes_inv fun t zb => ?_; obtain rfl := zb; refine o1_1 ry.bytes_inv fun u zb => ?_; obtain rfl := zb
 exact KBy.add_bytes hs fun t' k => VPost.tok H Rep.by h
theorem CmpP.ltS {a b : Str} {Ψ : PV → Prop} (h : Ψ (.bool (decide (a.cps.toList < b.cps.toList)))) : CmpP W n .Lt (.str a) (.str b) Ψ := fun A N G s x y R H rx ry => by
 refine o1_1 rx.str_inv fun t zb => ?_; obtain rfl := zb; refine o1_1 ry.str_inv fun u zb => ?_; obtain rfl := zb
 exact lt_str (VPost.same H Rep.b h)
theorem CmpP.gtS {a b : Str} {Ψ : PV → Prop} (h : Ψ (.bool (decide (b.cps.toList < a.cps.toList)))) : CmpP W n .Gt (.str a) (.str b) Ψ := fun A N G s x y R H rx ry => by
 refine o1_1 rx.str_inv fun t zb => ?_; obtain rfl := zb; refine o1_1 ry.str_inv fun u zb => ?_; obtain rfl := zb
 exact P.gt_str (VPost.same H Rep.b h)
theorem CmpP.eqS {a b : Str} {Ψ : PV → Prop} (h : Ψ (.bool (a == b))) : CmpP W n .Eq (.str a) (.str b) Ψ := fun A N G s x y R H rx ry => by
 refine o1_1 rx.str_inv fun t zb => ?_; obtain rfl := zb; refine o1_1 ry.str_inv fun u zb => ?_; obtain rfl := zb
 exact eq_str (VPost.same H Rep.b h)
theorem CmpP.neS {a b : Str} {Ψ : PV → Prop} (h : Ψ (.bool (a != b))) : CmpP W n .NotEq (.str a) (.str b) Ψ := fun A N G s x y R H rx ry => by
 refine o1_1 rx.str_inv fun t zb => ?_; obtain rfl := zb; refine o1_1 ry.str_inv fun u zb => ?_; obtain rfl := zb
 exact ne_str (VPost.same H Rep.b h)
theorem CmpP.inS {x y : Str} {Ψ : PV → Prop} (h : Ψ (.bool !(Builtin.Str.occurrences x y 0 x.length 1).isEmpty)) : CmpP W n .In (.str y) (.str x) Ψ := fun A N G s a b R H rx ry => by
 refine o1_1 rx.str_inv fun t zb => ?_; obtain rfl := zb; refine o1_1 ry.str_inv fun u zb => ?_; obtain rfl := zb
 exact in_str (VPost.same H Rep.b h)
theorem CmpP.neB {a b : Array UInt8} {Ψ : PV → Prop} (h : Ψ (.bool (a.toList != b.toList))) : CmpP W n .NotEq (.bytes a) (.bytes b) Ψ := fun A N G s x y R H rx ry => by
 refine o1_1 rx.bytes_inv fun t zb => ?_; obtain rfl := zb; refine o1_1 ry.bytes_inv fun u zb => ?_; obtain rfl := zb
 exact ne_bytes (VPost.same H Rep.b h)
end Mine
end
section
open PySem PySem.W PyProof.Rows PySem.Calls
namespace Mine
variable {W : Wd} {n : Nat} {env : Env} {wr : List Str} {σ : Sto} {N : Addr → Prop} {K G : PH} {s : Shared}
theorem subbed (i : Expr) (a b : Value) : ∃ vs, subscripted i false a b = operate vs (getItem a b) := by
 cases i with
 | Slice l u t p => cases t <;> exact ⟨_, rfl⟩
 | _ => exact ⟨_, rfl⟩
theorem subTail {v i : Expr} {a b : Value} {T id : String} {A : Around} {Q : Value → Shared → Prop} (hT : s.TypeIs a T) (hl : typeLookup (.type T) "__getitem__" = pure (some (.builtin id))) (h : wpAny W.M A (getItem a b) Q NoE s) :
  wpAny W.M A (subscriptTail v i a b) Q NoE s := by
 unfold subscriptTail
 refine wpAny_bind ?_
 rw [getitemInPython_of_ne hT.not_modules]
 refine wpAny_bind (wpAny_specialOf hT hl ?_)
 have fin : wpAny W.M A (subscripted i false a b) (fun r s₃ => wpAny W.M A (letTemporaryGo v a r >>= fun _ => pure r) Q NoE s₃) NoE s := by
  have k : ∀ vs, wpAny W.M A (operate vs (getItem a b)) (fun r s₃ => wpAny W.M A (letTemporaryGo v a r >>= fun _ => pure r) Q NoE s₃) NoE s := fun vs =>
   wpAny_operating (wpAny_mono h (fun r s₃ h₃ => wpAny_bind (wpAny_letTemporaryGo (wpAny_pure h₃))) fun _ _ x => x)
  refine o1_1 (subbed i a b) fun vs e => ?_
  rw [e]; exact k vs
 first
  | exact wpAny_pure (wpAny_bind fin)
  | exact wpAny_bind (wpAny_pure (wpAny_bind fin))
  | exact wpAny_bind fin
theorem seqIdx {k n : Nat} (h : k < n) : seqIndex? (k : Int) n = some k := by unfold seqIndex?; dsimp only; rw [if_neg (Int.not_lt.mpr (Int.natCast_nonneg k)), if_pos (by rw [decide_eq_true (Int.natCast_nonneg k), decide_eq_true (Int.ofNat_lt.mpr h)]; rfl)]; rfl
theorem SubP.list {v i : Expr} {ps : List PV} {k : Int} {p : PV} {Ψ : PV → Prop} (h0 : 0 ≤ k) (h1 : k < 2 ^ 62) (hx : ps[k.toNat]? = some p) (h : Ψ p) : SubP W n v i (.list ps) (.int k) Ψ := fun A N G s a b R H ra rb => by
 obtain ⟨l, o, vs, m, rfl, g, hc, hd, rs⟩ := ra.list_inv; refine o1_1 rb.int_inv fun u zb => ?_; obtain rfl := zb
 refine o1_2 (rs.at hx) fun w e r => ?_
 have hl : s.heap.IsList l vs := ⟨o, H.gin _ _ g, hc, m, hd⟩
 exact subTail hl.typeIs slot_list_getitem.lookup (wpAny_getItem_list hl h0 (by omega) (by simpa using e) (VPost.same H r h))
theorem SubP.listNeg {v i : Expr} {ps : List PV} {k : Int} {p : PV} {Ψ : PV → Prop} (h0 : k < 0) (h1 : -(ps.length : Int) ≤ k) (h2 : -(2 ^ 62) ≤ k) (hx : ps[(k + ps.length).toNat]? = some p) (h : Ψ p) : SubP W n v i (.list ps) (.int k) Ψ := fun A N G s a b R H ra rb => by
 obtain ⟨l, o, vs, m, rfl, g, hc, hd, rs⟩ := ra.list_inv; refine o1_1 rb.int_inv fun u zb => ?_; obtain rfl := zb
 refine o1_2 (rs.at hx) fun w e r => ?_
 have hl : s.heap.IsList l vs := ⟨o, H.gin _ _ g, hc, m, hd⟩
 have hlen := rs.length
 have hsz : vs.size = ps.length := by simpa using hlen
 exact subTail hl.typeIs slot_list_getitem.lookup (wpAny_getItem_list_neg hl h0 (by rw [hsz]; exact h1) (by omega) (by rw [hsz]; simpa using e) (VPost.same H r h))
theorem SubP.tup {v i : Expr} {ps : List PV} {k : Nat} {p : PV} {Ψ : PV → Prop} (h1 : (k : Int) < 2 ^ 62) (hx : ps[k]? = some p) (h : Ψ p) : SubP W n v i (.tuple ps) (.int (k : Int)) Ψ := fun A N G s a b R H ra rb => by
 obtain ⟨l, o, vs, m, rfl, g, hc, hd, rs⟩ := ra.tup_inv; refine o1_1 rb.int_inv fun u zb => ?_; obtain rfl := zb
 refine o1_2 (rs.at hx) fun w e r => ?_
 have ht : IsTup s.heap l vs := ⟨o, H.gin _ _ g, hc, m, hd⟩
 have hlt : k < vs.size := by have := (List.getElem?_eq_some_iff.mp e).1; simpa using this
 exact subTail ht.typeIs slot_tuple_getitem.lookup (getItem_tuple (j := k) ht (by with_reducible exact Om.negLe (by decide)) (by omega) (seqIdx hlt) (by simpa using e) (VPost.same H r h))
theorem SubP.str {v i : Expr} {x : Str} {k c : Nat} {Ψ : PV → Prop} (hx : x.cps[k]? = some c) (h2 : (k : Int) < 2 ^ 62) (h : Ψ (.str ⟨#[c]⟩)) : SubP W n v i (.str x) (.int (k : Int)) Ψ := fun A N G s a b R H ra rb => by
 refine o1_1 ra.str_inv fun t zb => ?_; obtain rfl := zb; refine o1_1 rb.int_inv fun u zb => ?_; obtain rfl := zb
 have hlt : k < x.length := by have := (Array.getElem?_eq_some_iff.mp hx).1; exact this
 refine subTail (typeIs_str _ _ _) slot_str_getitem.lookup (PyProof.Rows.getItem_str (c := c) ?_ ?_ (VPost.tok H Rep.st h))
 ·rw [Bool.or_eq_false_iff]; exact ⟨decide_eq_false (by omega), decide_eq_false (by omega)⟩
 ·rw [seqIdx hlt]; exact hx
def Parts (W : Wd) (n : Nat) (env : Env) (wr : List Str) : Option Expr → Sto → (PV → Sto → Prop) → Prop
 | none, σ, Ψ => Ψ .none σ
 | some e, σ, Ψ => Ev W n env wr e σ Ψ
theorem Parts.wp {A : Around} {Ψ : PV → Sto → Prop} (R : Room A n) : ∀ (o : Option Expr), Parts W n env wr o σ Ψ → St W N K G env wr σ s → wpAny W.M A (evalPart o env) (EPost W N K G env wr Ψ) NoE s
 | none, h, S => wpAny_pure ⟨G, .none, σ, PH.Le.refl G, S, rfl, h⟩
 | some e, h, S => h A N K G s R S
abbrev KSl2 (p : PV) (Ψ : PV → Sto → Prop) (q : PV) (σ : Sto) : Prop := Ψ (.obj "slice" [p, q, .none]) σ
abbrev KSl (W : Wd) (n : Nat) (env : Env) (wr : List Str) (hi : Option Expr) (Ψ : PV → Sto → Prop) (p : PV) (σ : Sto) : Prop := Parts W n env wr hi σ (KSl2 p Ψ)
theorem Ev.slice {lo hi : Option Expr} {pos : Pos} {Ψ : PV → Sto → Prop} (h : Parts W n env wr lo σ (KSl W n env wr hi Ψ)) : Ev W n env wr (.Slice lo hi none pos) σ Ψ :=
 fun A N K G s R S => wpAny_Slice (bE (Parts.wp R lo h S) fun a p σ₁ G₁ s₁ g₁ S₁ r₁ h₁ => bE (Parts.wp R hi h₁ S₁) fun b q σ₂ G₂ s₂ g₂ S₂ r₂ h₂ => wpAny_pure (by
  refine o0_2 (S₂.push (o := { cls := .type "slice", data := .fields #[a, b, .none] }) rfl) fun S₃ g₃ => ?_
  exact ⟨_, _, σ₂, (g₁.trans g₂).trans g₃, S₃, by exact i2_3 _ _ rfl (PH.add_self ..) (Reps.cons (Rep.mono (g₂.trans g₃) _ _ r₁) (Reps.cons (Rep.mono g₃ _ _ r₂) (Reps.cons (rfl) Reps.nil))), h₂⟩))
def partPV : Option Nat → PV
 | none => .none
 | some i => .int (i : Int)
theorem part_inv {o : Option Nat} {v : Value} (h : Rep W G (partPV o) v) : ∃ t, v = partValue (o.map fun (i : Nat) => ((i : Int), t)) ∧ IsPart v (o.map fun (i : Nat) => (i : Int)) := by
 cases o with
 | none => have := h.none_inv; subst this; exact (i1_2 0 rfl .none)
 | some i => refine o1_1 h.int_inv fun t zb => ?_; obtain rfl := zb; exact (i1_2 t rfl (.int _ _))
theorem slice_inv {lo hi : Option Nat} {v : Value} (h : Rep W G (.obj "slice" [partPV lo, partPV hi, .none]) v) : ∃ b a c, v = .ref b ∧ Rep W G (partPV lo) a ∧ Rep W G (partPV hi) c ∧
  G b = some { cls := .type "slice", data := .fields #[a, c, .none] } := by
 refine o2_3 h.obj_inv fun b vs zc g r => ?_; obtain rfl := zc
 refine o2_3 r ?_; clear r; intro a r e ra rs
 refine o2_3 rs ?_; clear rs; intro c r' zc rc rs; obtain rfl := zc
 refine o2_3 rs ?_; clear rs; intro d r'' zc rd rs; obtain rfl := zc
 obtain rfl := rs
 have := rd.none_inv; subst this
 refine (i3_4 b a c rfl ra rc ?_)
 rw [g]; congr 3
 exact Array.toList_inj.mp (by rw [e])
def cut {α : Type} (l : List α) (lo hi : Option Nat) : List α := (l.take (hi.getD l.length)).drop (lo.getD 0)
theorem cut_len {α : Type} (l : List α) (lo hi : Option Nat) : (cut l lo hi).length = min (hi.getD l.length) l.length - lo.getD 0 := by unfold cut; rw [List.length_drop, List.length_take]
theorem cut_min {α : Type} (l : List α) (lo hi : Option Nat) : (l.drop (min (lo.getD 0) l.length)).take (min (hi.getD l.length) l.length - min (lo.getD 0) l.length) = cut l lo hi := by
 unfold cut
 rw [← List.drop_take, show l.take (min (hi.getD l.length) l.length) = l.take (hi.getD l.length) from List.take_eq_take_iff.mpr (by rw [Nat.min_assoc, Nat.min_self])]
 rcases Nat.le_total (lo.getD 0) l.length with h | h
 ·rw [Nat.min_eq_left h]
 ·rw [Nat.min_eq_right h, List.drop_eq_nil_of_le (List.length_take_le' _ _), List.drop_eq_nil_of_le (Nat.le_trans (List.length_take_le' _ _) h)]
theorem SubP.listCut {v i : Expr} {ps : List PV} {lo hi : Option Nat} {Ψ : PV → Prop} (hs : ps.length ≤ sizeLine) (h : Ψ (.list (cut ps lo hi))) : SubP W n v i (.list ps) (.obj "slice" [partPV lo, partPV hi, .none]) Ψ := fun A N G s a b R H ra rb => by
 obtain ⟨l, o, vs, m, rfl, g, hc, hd, rs⟩ := ra.list_inv
 refine o3_4 (slice_inv rb) fun sl vl vh zd rl rh gs => ?_; obtain rfl := zd
 refine o1_2 (part_inv rl) fun tl _ pl => ?_; refine o1_2 (part_inv rh) fun th _ ph => ?_
 have hl : s.heap.IsList l vs := ⟨o, H.gin _ _ g, hc, m, hd⟩
 have hlen := rs.length
 have hsz : vs.size = ps.length := by simpa using hlen
 have key : ∀ (ps : List PV) (vs : List Value), Reps W G ps vs → ∀ k, Reps W G (ps.take k) (vs.take k) ∧ Reps W G (ps.drop k) (vs.drop k) := by
  intro ps; induction ps with
  | nil => intro vs h k; obtain rfl := h; simp [Reps.nil]
  | cons p ps ih =>
   intro vs h k; refine o2_3 h fun u r zc h1 h2 => ?_; clear h; obtain rfl := zc
   cases k with
   | zero => simp [Reps.nil, Reps.cons h1 h2]
   | succ k => exact ⟨by simpa using Reps.cons h1 (ih r h2 k).1, by simpa using (ih r h2 k).2⟩
 have e : slicePick vs (lo.map fun (i : Nat) => (i : Int)) (hi.map fun (i : Nat) => (i : Int)) none = (cut vs.toList lo hi).toArray := by
  have e1 : (lo.map fun (i : Nat) => (i : Int)).elim 0 (clipAt vs.size) = min (lo.getD 0) vs.size := by
   cases lo
   ·exact (Nat.zero_min _).symm
   ·exact clipAt_nat _ _
  have e2 : (hi.map fun (i : Nat) => (i : Int)).elim vs.size (clipAt vs.size) = min (hi.getD vs.size) vs.size := by
   cases hi
   ·exact (Nat.min_self _).symm
   ·exact clipAt_nat _ _
  rw [slicePick_plain, e1, e2]
  exact congrArg List.toArray (cut_min vs.toList lo hi)
 refine subTail hl.typeIs slot_list_getitem.lookup (wpAny_getItem_list_slice hl ⟨_, H.gin _ _ gs, rfl, rfl⟩ pl ph .none (fun q => nomatch q) ?_ (by rw [hsz]; exact hs))
 rw [e]
 refine o0_2 (H.push (o := { cls := .type "list", data := .seq (cut vs.toList lo hi).toArray }) rfl) fun H' g' => ?_
 refine ⟨_, _, g', H', HLe.push _ _ _, ?_, h⟩
 exact Rep.newList (h := s.heap) rfl (PH.add_self ..) (Reps.mono g' _ _ (by unfold cut; rw [show vs.toList.length = ps.length by simpa using hsz]; exact (key _ _ (key _ _ rs _).1 _).2))
def scut (x : Str) (lo hi : Option Nat) : Str := ⟨(cut x.cps.toList lo hi).toArray⟩
theorem srange (a b : Nat) : sliceRange (a : Int) (b : Int) 1 = (List.range (b - a)).map fun k => a + k := by
 have e : (if (1 : Int) > 0 then (if (a : Int) < b then ((b : Int) - a + 1 - 1) / 1 else 0) else (if (a : Int) > b then ((a : Int) - b - 1 - 1) / (-1) else 0)).toNat = b - a := by
  rw [if_pos (by decide)]
  by_cases h : (a : Int) < b
  ·rw [if_pos h, Int.ediv_one, Int.add_sub_cancel]; exact Int.toNat_sub b a
  ·rw [if_neg h]; exact (Nat.sub_eq_zero_of_le (Int.ofNat_le.mp (Int.not_lt.mp h))).symm
 show (List.range _).map _ = _
 rw [show (if (1 : Int) > 0 then (if (a : Int) < b then ((b : Int) - a + 1 - 1) / 1 else 0) else (if (a : Int) > b then ((a : Int) - b - 1 - 1) / (-1) else 0)) = (if (1 : Int) > 0 then (if (a : Int) < b then ((b : Int) - a + 1 - 1) / 1 else 0) else (if (a : Int) > b then ((a : Int) - b - 1 - 1) / (-1) else 0)) from rfl] at e
 rw [e]
 exact List.map_congr_left fun k _ => by rw [Int.one_mul, ← Int.natCast_add, Int.toNat_natCast]
theorem clipN (i len : Nat) : (if (1 : Int) > 0 then max 0 (min (if (i : Int) < 0 then (i : Int) + len else i) (len : Int)) else max (-1) (min (if (i : Int) < 0 then (i : Int) + len else i) ((len : Int) - 1))) = ((min i len : Nat) : Int) := by
 rw [if_pos (by decide), if_neg (Int.not_lt.mpr (Int.natCast_nonneg i)), ← Lean.Omega.Int.ofNat_min, Int.max_eq_right (Int.natCast_nonneg _)]
theorem sidx (lo hi : Option Nat) (len : Nat) : Builtin.Str.strSliceIndices (lo.map fun (i : Nat) => (i : Int)) (hi.map fun (i : Nat) => (i : Int)) 1 len =
  (List.range (min (hi.getD len) len - min (lo.getD 0) len)).map fun k => min (lo.getD 0) len + k := by
 rw [← srange]
 have e1 : ∀ o : Option Nat, (match o.map fun (i : Nat) => (i : Int) with | none => if (1 : Int) > 0 then (0 : Int) else (len : Int) - 1 | some i => if (1 : Int) > 0 then max 0 (min (if i < 0 then i + len else i) (len : Int)) else max (-1) (min (if i < 0 then i + len else i) ((len : Int) - 1))) = ((min (o.getD 0) len : Nat) : Int) := fun o => by
  cases o with
  | none => rw [Option.getD_none, Nat.zero_min]; rfl
  | some i => exact clipN i len
 have e2 : ∀ o : Option Nat, (match o.map fun (i : Nat) => (i : Int) with | none => if (1 : Int) > 0 then (len : Int) else -1 | some i => if (1 : Int) > 0 then max 0 (min (if i < 0 then i + len else i) (len : Int)) else max (-1) (min (if i < 0 then i + len else i) ((len : Int) - 1))) = ((min (o.getD len) len : Nat) : Int) := fun o => by
  cases o with
  | none => rw [Option.getD_none, Nat.min_self]; rfl
  | some i => exact clipN i len
 rw [← e1, ← e2]; rfl
theorem SubP.strCut {v i : Expr} {x : Str} {lo hi : Option Nat} {Ψ : PV → Prop} (hs : x.length ≤ sizeLine) (h : Ψ (.str (scut x lo hi))) : SubP W n v i (.str x) (.obj "slice" [partPV lo, partPV hi, .none]) Ψ := fun A N G s a b R H ra rb => by
 refine o1_1 ra.str_inv fun t zb => ?_; obtain rfl := zb
 refine o3_4 (slice_inv rb) fun sl vl vh zd rl rh gs => ?_; obtain rfl := zd
 refine o1_2 (part_inv rl) fun tl el _ => ?_; refine o1_2 (part_inv rh) fun th eh _ => ?_
 refine subTail (typeIs_str _ _ _) slot_str_getitem.lookup (wpAny_getItem_str_slice (l := lo.map fun (i : Nat) => ((i : Int), tl)) (u := hi.map fun (i : Nat) => ((i : Int), th)) (st := none) ⟨_, H.gin _ _ gs, rfl, by rw [el, eh]; rfl⟩ rfl ?_)
 have hx : x.cps.toList.length = x.length := rfl
 have ht : ((slicePicked x (lo.map fun (i : Nat) => ((i : Int), tl)) (hi.map fun (i : Nat) => ((i : Int), th)) none).filterMap (x.cps[·]?)) = cut x.cps.toList lo hi ∧
   (slicePicked x (lo.map fun (i : Nat) => ((i : Int), tl)) (hi.map fun (i : Nat) => ((i : Int), th)) none).length = min (hi.getD x.length) x.length - min (lo.getD 0) x.length := by
  have hp : slicePicked x (lo.map fun (i : Nat) => ((i : Int), tl)) (hi.map fun (i : Nat) => ((i : Int), th)) none = (List.range (min (hi.getD x.length) x.length - min (lo.getD 0) x.length)).map fun k => min (lo.getD 0) x.length + k := by
   rw [← sidx]; unfold slicePicked; cases lo <;> cases hi <;> rfl
  rw [hp]
  constructor
  ·rw [← cut_min, hx, ← StrLaws.picks x.cps.toList _ _ ?_]
   ·rw [show (fun i => x.cps[i]?) = fun i => x.cps.toList[i]? from funext fun i => Array.getElem?_toList.symm]
   ·rcases Nat.le_total (min (lo.getD 0) x.length) (min (hi.getD x.length) x.length) with h | h
    ·rw [Nat.add_sub_cancel' h]; exact Nat.min_le_right _ _
    ·rw [Nat.sub_eq_zero_of_le h]; exact Nat.min_le_right _ _
  ·rw [List.length_map, List.length_range]
 refine o0_2 ht ?_; clear ht; intro ht hn
 unfold sliceMade
 split
 ·rename_i hh
  have hlen : (slicePicked x (lo.map fun (i : Nat) => ((i : Int), tl)) (hi.map fun (i : Nat) => ((i : Int), th)) none).length = x.length := by simpa using hh
  refine VPost.same (p := .str (scut x lo hi)) H ?_ h
  have : scut x lo hi = x := by
   unfold scut
   rw [hn] at hlen
   have : cut x.cps.toList lo hi = x.cps.toList := by
    rw [← cut_min, hx, hlen]
    have h1 := Nat.sub_le (min (hi.getD x.length) x.length) (min (lo.getD 0) x.length)
    rw [hlen] at h1
    have h2 := Nat.le_antisymm (Nat.min_le_right (hi.getD x.length) x.length) h1
    rw [h2] at hlen
    have h3 : min (lo.getD 0) x.length = 0 ∨ x.length = 0 := by
     rcases Nat.eq_zero_or_pos x.length with q | q
     ·exact .inr q
     ·exact .inl (Nat.eq_zero_of_not_pos fun r => Nat.lt_irrefl _ (hlen ▸ Nat.sub_lt q r))
    rcases h3 with h | h
    ·rw [h, List.drop_zero, List.take_of_length_le (Nat.le_of_eq hx)]
    ·rw [List.eq_nil_of_length_eq_zero (hx.trans h)]; simp
   rw [this, Array.toArray_toList]
  rw [this]; exact Rep.st
 ·refine ⟨?_, VPost.tok H ?_ h⟩
  ·show Array.size _ ≤ _; rw [ht, List.size_toArray, cut_len]; exact Nat.le_trans (Nat.sub_le _ _) (Nat.le_trans (Nat.min_le_right _ _) hs)
  ·rw [ht]; exact Rep.st
end Mine
end
section
open PySem PySem.W PyProof.Rows PySem.Calls
namespace Mine
variable {W : Wd} {n : Nat} {env : Env} {wr : List Str} {σ : Sto} {N : Addr → Prop} {K G : PH} {s : Shared}
def dget {α : Type} (es : List (Str × α)) (k : Str) : Option α := (es.find? fun e => e.1 = k).map (·.2)
def dput {α : Type} (es : List (Str × α)) (k : Str) (p : α) : List (Str × α) := if es.any (fun e => e.1 = k) then es.map (fun e => if e.1 = k then (e.1, p) else e) else es ++ [(k, p)]
theorem RepKV.at_ : ∀ {es : List (Str × PV)} {kvs : List (Str × Value)} (k : Str), RepKV W G es kvs → (valueAt kvs k = none ∧ dget es k = none) ∨ ∃ v p, valueAt kvs k = some v ∧ dget es k = some p ∧ Rep W G p v
 | [], _, k, h => by obtain rfl := h; exact .inl ⟨rfl, rfl⟩
 | (k', p) :: es, _, k, h => by
  refine o2_3 h fun v r zc h1 h2 => ?_; clear h; obtain rfl := zc
  by_cases q : k' = k
  ·exact .inr (i2_3 v p (by simp [valueAt, q]) (by simp [dget, q]) h1)
  ·have := RepKV.at_ k h2
   simpa [valueAt, dget, q] using this
theorem RepKV.app : ∀ {es : List (Str × PV)} {kvs : List (Str × Value)} {k : Str} {p : PV} {v : Value}, RepKV W G es kvs → Rep W G p v → RepKV W G (es ++ [(k, p)]) (kvs ++ [(k, v)])
 | [], _, _, _, _, h, r => by obtain rfl := h; exact i2_3 _ ([]) rfl r rfl
 | (k', q) :: es, _, _, _, _, h, r => by
  refine o2_3 h fun u w zc h1 h2 => ?_; clear h; obtain rfl := zc
  show RepKV W G ((k', q) :: (es ++ _)) _
  exact i2_3 u _ rfl h1 (RepKV.app h2 r)
theorem RepKV.set : ∀ {es : List (Str × PV)} {kvs : List (Str × Value)} {k : Str} {p : PV} {v : Value}, RepKV W G es kvs → Rep W G p v →
  RepKV W G (es.map fun e => if e.1 = k then (e.1, p) else e) (kvs.map fun e => if e.1 = k then (e.1, v) else e)
 | [], _, _, _, _, h, r => by obtain rfl := h; exact rfl
 | (k', q) :: es, _, k, p, v, h, r => by
  refine o2_3 h fun u w zc h1 h2 => ?_; clear h; obtain rfl := zc
  have ih := RepKV.set (k := k) h2 r
  simp only [List.map_cons]
  split <;> exact i2_3 _ _ rfl (by assumption) ih
theorem RepKV.any : ∀ {es : List (Str × PV)} {kvs : List (Str × Value)} (k : Str), RepKV W G es kvs → kvs.any (fun e => e.1 = k) = es.any fun e => e.1 = k
 | [], _, _, h => by obtain rfl := h; rfl
 | (k', q) :: es, _, k, h => by
  refine o2_3 h fun u w zc h1 h2 => ?_; clear h; obtain rfl := zc
  simp only [List.any_cons, RepKV.any k h2]
theorem RepKV.stored {es : List (Str × PV)} {kvs : List (Str × Value)} {k : Str} {p : PV} {v : Value} (h : RepKV W G es kvs) (r : Rep W G p v) : RepKV W G (dput es k p) (stored kvs k v) := by
 unfold dput PySem.stored
 rw [h.any k]
 split
 ·exact h.set r
 ·exact h.app r
theorem dictOf_at {h : Heap} {a : Addr} {o : Obj} {kvs : List (Str × Value)} (e : h.get? a = some o) (d : o.IsDictOf W.knd kvs) : h.DictOf W.knd a kvs := Heap.dictOf_iff.mpr (i1_2 o e d)
theorem SubP.dict {v i : Expr} {es : List (Str × PV)} {k : Str} {p : PV} {Ψ : PV → Prop} (hx : dget es k = some p) (h : Ψ p) : SubP W n v i (.dict es) (.str k) Ψ := fun A N G s a b R H ra rb => by
 obtain ⟨d, o, kvs, rfl, g, hd, hm, rs⟩ := ra.dict_inv; refine o1_1 rb.str_inv fun t zb => ?_; obtain rfl := zb
 have D := (dictOf_at (H.gin _ _ g) hd).mapOf
 rcases rs.at_ k with ⟨_, e⟩ | ⟨u, q, e1, e2, r⟩
 ·rw [e] at hx; cases hx
 ·rw [e2] at hx; cases hx
  exact subTail D.typeIs F.slot_dict_getitem.lookup (wpAny_getItem_of (strKind_is _ _ k t) D e1 (VPost.tok H r h))
theorem CmpP.inD {es : List (Str × PV)} {k : Str} {Ψ : PV → Prop} (h : Ψ (.bool (dget es k).isSome)) : CmpP W n .In (.str k) (.dict es) Ψ := fun A N G s a b R H ra rb => by
 obtain ⟨d, o, kvs, rfl, g, hd, hm, rs⟩ := rb.dict_inv; refine o1_1 ra.str_inv fun t zb => ?_; obtain rfl := zb
 have D := (dictOf_at (H.gin _ _ g) hd).mapOf
 refine wpAny_in_of (strKind_is _ _ k t) hm D (VPost.tok H ?_ h)
 rcases rs.at_ k with ⟨e1, e2⟩ | ⟨u, q, e1, e2, r⟩ <;> rw [e1, e2] <;> exact Rep.b
theorem Reps.strs : ∀ {ys : List Str} {vs : List Value}, Reps W G (ys.map .str) vs → ∃ l : List (Str × Tok), vs = strValues l ∧ l.map (·.1) = ys
 | [], _, h => by
  have h : Reps W G [] _ := h
  obtain rfl := h; exact (i1_2 ([]) rfl rfl)
 | y :: ys, _, h => by
  have h : Reps W G (PV.str y :: ys.map .str) _ := h
  refine o2_3 h fun u w zc h1 h2 => ?_; clear h; obtain rfl := zc
  refine o1_1 h1.str_inv fun t zb => ?_; obtain rfl := zb
  refine o1_2 (Reps.strs h2) fun l zb e => ?_; obtain rfl := zb
  exact (i1_2 ((y, t) :: l) rfl (by simp [e]))
theorem CmpP.inL {ys : List Str} {k : Str} {Ψ : PV → Prop} (h : Ψ (.bool (ys.any fun x => x == k))) : CmpP W n .In (.str k) (.list (ys.map .str)) Ψ := fun A N G s a b R H ra rb => by
 obtain ⟨l, o, vs, m, rfl, g, hc, hd, rs⟩ := rb.list_inv; refine o1_1 ra.str_inv fun t zb => ?_; obtain rfl := zb
 refine o1_2 rs.strs fun l' e e' => ?_
 have e2 : vs = (strValues l').toArray := Array.toList_inj.mp (by rw [e])
 subst e'
 have hl : s.heap.IsList l (strValues l').toArray := ⟨o, H.gin _ _ g, hc, m, by rw [hd, e2]⟩
 have ha := strsAre_of_values l'
 refine in_list_strs (Q := VPost W N G s Ψ) hl ha ?_
 exact VPost.same H Rep.b h
def MethT (W : Wd) (name : Str) (p : PV) (f : Value) : Prop :=
 ∀ A N G s v pl (Q : Value × List Value → Shared → Prop), Hp W N G s → Rep W G p v → Q (f, [v]) s → wpAny W.M A (getMethod v name pl) Q NoE s
theorem MethT.str {x name : Str} {id : String} (slot : Slot "str" name id) (ty : typeOf (.builtin id) = pure (.type "method_descriptor")) : MethT W name (.str x) (.builtin id) := fun A N G s v pl Q H r h => by
 refine o1_1 r.str_inv fun t zb => ?_; obtain rfl := zb
 exact getMethod_builtin (typeIs_str _ _ _) F.plainAttrs_str slot ty (fun _ e => nomatch e) h
theorem MethT.bytes {x : Array UInt8} {name : Str} {id : String} (slot : Slot "bytes" name id) (ty : typeOf (.builtin id) = pure (.type "method_descriptor")) : MethT W name (.bytes x) (.builtin id) := fun A N G s v pl Q H r h => by
 refine o1_1 r.bytes_inv fun t zb => ?_; obtain rfl := zb
 exact getMethod_builtin (typeIs_bytes _ _ _) FB.plainAttrs_bytes slot ty (fun _ e => nomatch e) h
theorem MethT.dict {es : List (Str × PV)} {name : Str} {id : String} (slot : Slot "dict" name id) (ty : typeOf (.builtin id) = pure (.type "method_descriptor")) : MethT W name (.dict es) (.builtin id) := fun A N G s v pl Q H r h => by
 obtain ⟨d, o, kvs, rfl, g, hd, hm, rs⟩ := r.dict_inv
 have D := (dictOf_at (H.gin _ _ g) hd).mapOf
 exact getMethod_builtin D.typeIs F.plainAttrs_dict slot ty D.noDict h
theorem Ev.meth {o : Expr} {name : Str} {apos pos : Pos} {es : List Expr} {pl : Sem Bool} {Ψ : PV → Sto → Prop}
  (h : Ev W n env wr o σ fun p σ₁ => ∃ f, MethT W name p f ∧ KeepOk W f ∧ Evs W n env wr es σ₁ fun ps σ₂ => CallP W n (.val f) (p :: ps) fun r => Ψ r σ₂)
  (hn : noStar es = true := by with_unfolding_all rfl)
  (he : eval (.Call (.Attribute o name apos) es [] pos) env = (do
   let ov ← eval o env
   standAt apos.atName
   let (f, first) ← holding [ov] (getMethod ov name pl)
   callWith pos f first (backTo pos (starEach es env)) []) := by with_unfolding_all rfl) : Ev W n env wr (.Call (.Attribute o name apos) es [] pos) σ Ψ := fun A N K G s R S =>
 MethodCall_ (bE (h A N K G s R S) fun v p σ₁ G₁ s₁ g₁ S₁ r₁ zz => o1_3 zz fun f hm hk h₁ => hm A _ G₁ s₁ v pl _ S₁.hp r₁ (fE g₁ (callWith_wp (first := [v]) R hk hn h₁ S₁ fun vs ps σ₂ G₂ s₂ g₂ S₂ r₂ h₂ =>
  fV S₂ (PH.Le.refl _) (h₂ A _ G₂ s₂ f (v :: vs) R S₂.hp (rfl) (Reps.cons (Rep.mono g₂ _ _ r₁) r₂)) fun _ x => x))) he
theorem Reps.inv1 {p : PV} {vs : List Value} (h : Reps W G [p] vs) : ∃ a, vs = [a] ∧ Rep W G p a := by
 refine o2_3 h ?_; clear h; intro a r zc ra h; obtain rfl := zc
 obtain rfl := h; exact (i1_2 a rfl ra)
theorem Reps.inv2 {p q : PV} {vs : List Value} (h : Reps W G [p, q] vs) : ∃ a b, vs = [a, b] ∧ Rep W G p a ∧ Rep W G q b := by
 refine o2_3 h ?_; clear h; intro a r zc ra h; obtain rfl := zc
 refine o1_2 h.inv1 fun b zb rb => ?_; obtain rfl := zb; exact (i2_3 a b rfl ra rb)
theorem Reps.inv3 {p q r : PV} {vs : List Value} (h : Reps W G [p, q, r] vs) : ∃ a b c, vs = [a, b, c] ∧ Rep W G p a ∧ Rep W G q b ∧ Rep W G r c := by
 refine o2_3 h ?_; clear h; intro a r zc ra h; obtain rfl := zc
 refine o2_3 h.inv2 fun b c zc rb rc => ?_; obtain rfl := zc; exact (i3_4 a b c rfl ra rb rc)
theorem CallP.items {es : List (Str × PV)} {Ψ : PV → Prop} (h : Ψ (.obj "dict_items" [.dict es])) : CallP W n (.val (.builtin "dict.items")) [.dict es] Ψ := fun A N G s f vs R H rf rv => by
 have := rf.val_inv; subst this; refine o1_2 rv.inv1 fun a zb ra => ?_; obtain rfl := zb
 obtain ⟨d, o, kvs, rfl, g, hd, hm, rs⟩ := id ra.dict_inv
 have D := dictOf_at (H.gin _ _ g) hd
 refine call_meetsIn F.slot_dict_items D.mapOf.typeIs F.entry_dict_items (F.args_dict_items_1 _) (meets_dict_items W.knd d hm) ⟨⟨kvs, D⟩, ?_⟩
 refine o0_2 (H.push (o := { cls := .type "dict_items", data := .fields #[.ref d] }) rfl) fun H' g' => ?_
 exact ⟨_, _, g', H', HLe.push _ _ _, by exact i2_3 _ _ rfl (PH.add_self ..) (Reps.cons (Rep.mono g' _ _ ra) Reps.nil), h⟩
theorem CallP.values {es : List (Str × PV)} {Ψ : PV → Prop} (h : Ψ (.obj "dict_values" [.dict es])) : CallP W n (.val (.builtin "dict.values")) [.dict es] Ψ := fun A N G s f vs R H rf rv => by
 have := rf.val_inv; subst this; refine o1_2 rv.inv1 fun a zb ra => ?_; obtain rfl := zb
 obtain ⟨d, o, kvs, rfl, g, hd, hm, rs⟩ := id ra.dict_inv
 have D := dictOf_at (H.gin _ _ g) hd
 refine call_meetsIn F.slot_dict_values D.mapOf.typeIs F.entry_dict_values (F.args_dict_values_1 _) (meets_dict_values W.knd d hm) ⟨⟨kvs, D⟩, ?_⟩
 refine o0_2 (H.push (o := { cls := .type "dict_values", data := .fields #[.ref d] }) rfl) fun H' g' => ?_
 exact ⟨_, _, g', H', HLe.push _ _ _, by exact i2_3 _ _ rfl (PH.add_self ..) (Reps.cons (Rep.mono g' _ _ ra) Reps.nil), h⟩
theorem CallP.get2 {es : List (Str × PV)} {k : Str} {d : PV} {Ψ : PV → Prop} (h : Ψ ((dget es k).getD d)) : CallP W n (.val (.builtin "dict.get")) [.dict es, .str k, d] Ψ := fun A N G s f vs R H rf rv => by
 have := rf.val_inv; subst this; refine o3_4 rv.inv3 fun a b c zd ra rb rc => ?_; obtain rfl := zd
 obtain ⟨l, o, kvs, rfl, g, hd, hm, rs⟩ := id ra.dict_inv; refine o1_1 rb.str_inv fun t zb => ?_; obtain rfl := zb
 have D := dictOf_at (H.gin _ _ g) hd
 refine call_meetsIn F.slot_dict_get D.mapOf.typeIs F.entry_dict_get (F.args_dict_get_3 _ _ _) (meets_dict_get_default W.knd l (strKind_is _ _ k t) hm c) (i1_2 _ D.mapOf (VPost.tok H ?_ h))
 rcases rs.at_ k with ⟨e1, e2⟩ | ⟨u, q, e1, e2, r⟩
 ·rw [e1, e2]; exact rc
 ·rw [e1, e2]; exact r
theorem CallP.join {x : Str} {ys : List Str} {Ψ : PV → Prop} (hok : JoinOk x ys = true) (h : Ψ (.str (Txt.join x ys))) : CallP W n (.val (.builtin "str.join")) [.str x, .list (ys.map .str)] Ψ := fun A N G s f vs R H rf rv => by
 have := rf.val_inv; subst this; refine o2_3 rv.inv2 fun a b zc ra rb => ?_; obtain rfl := zc
 refine o1_1 ra.str_inv fun t zb => ?_; obtain rfl := zb; obtain ⟨l, o, vs, m, rfl, g, hc, hd, rs⟩ := rb.list_inv
 refine o1_2 rs.strs fun l' e e' => ?_
 have e2 : vs = (strValues l').toArray := Array.toList_inj.mp (by rw [e])
 exact SC.join ⟨o, H.gin _ _ g, hc, m, by rw [hd, e2]⟩ e' hok fun t' k => VPost.tok H Rep.st h
theorem CallP.lenL {ps : List PV} {Ψ : PV → Prop} (hs : (ps.length : Int) < 2 ^ 62) (h : Ψ (.int (ps.length : Int))) : CallP W n (.val (.builtin "len")) [.list ps] Ψ := fun A N G s f vs R H rf rv => by
 have := rf.val_inv; subst this; refine o1_2 rv.inv1 fun a zb ra => ?_; obtain rfl := zb
 obtain ⟨l, o, vs, m, rfl, g, hc, hd, rs⟩ := ra.list_inv
 have hsz : vs.size = ps.length := by simpa using rs.length
 exact len_list ⟨o, H.gin _ _ g, hc, m, hd⟩ (by rw [hsz]; omega) (by rw [hsz]; exact VPost.tok H Rep.i h)
theorem CallP.lenS {x : Str} {Ψ : PV → Prop} (hs : (x.length : Int) < 2 ^ 62) (h : Ψ (.int (x.length : Int))) : CallP W n (.val (.builtin "len")) [.str x] Ψ := fun A N G s f vs R H rf rv => by
 have := rf.val_inv; subst this; refine o1_2 rv.inv1 fun a zb ra => ?_; obtain rfl := zb; refine o1_1 ra.str_inv fun t zb => ?_; obtain rfl := zb
 exact P.len_str (by omega) (VPost.tok H Rep.i h)
theorem CallP.strI {a : Int} {Ψ : PV → Prop} (hs : a.natAbs.log2 < 1920) (h : Ψ (.str (Str.ofString (toString a)))) : CallP W n (.val (.type "str")) [.int a] Ψ := fun A N G s f vs R H rf rv => by
 have := rf.val_inv; subst this; refine o1_2 rv.inv1 fun b zb rb => ?_; obtain rfl := zb; refine o1_1 rb.int_inv fun t zb => ?_; obtain rfl := zb
 exact P.str_of_int hs (VPost.tok H Rep.st h)
theorem CallP.isTup {ps : List PV} {Ψ : PV → Prop} (h : Ψ (.bool true)) : CallP W n (.val (.builtin "isinstance")) [.tuple ps, .val (.type "tuple")] Ψ := fun A N G s f vs R H rf rv => by
 have := rf.val_inv; subst this; refine o2_3 rv.inv2 fun a b zc ra rb => ?_; obtain rfl := zc
 have := rb.val_inv; subst this
 obtain ⟨l, o, vs, m, rfl, g, hc, hd, rs⟩ := ra.tup_inv
 have ht : IsTup s.heap l vs := ⟨o, H.gin _ _ g, hc, m, hd⟩
 exact call_isinstance_yes ht.typeIs (by rfl) KPt.sub_tt (VPost.same H Rep.b h)
theorem CallP.range1 {b : Int} {Ψ : PV → Prop} (h : Ψ (.obj "range" [.int 0, .int b, .int 1])) : CallP W n (.val (.type "range")) [.int b] Ψ := fun A N G s f vs R H rf rv => by
 have := rf.val_inv; subst this; refine o1_2 rv.inv1 fun a zb ra => ?_; obtain rfl := zb; refine o1_1 ra.int_inv fun t zb => ?_; obtain rfl := zb
 refine call_range_1 ?_
 refine o0_2 (H.push (o := { cls := .type "range", data := .fields #[.int 0 s.toks, .int b t, .int 1 (s.toks + 1)] }) rfl) fun H' g' => ?_
 exact ⟨_, _, g', H'.tok _, HLe.push _ _ _, by exact i2_3 _ _ rfl (PH.add_self ..) (Reps.cons Rep.i (Reps.cons Rep.i (Reps.cons Rep.i Reps.nil))), h⟩
end Mine
end
section
open PySem PySem.W PyProof.Rows PySem.Calls
namespace Mine
variable {W : Wd} {n : Nat} {env : Env} {wr : List Str} {σ : Sto} {N : Addr → Prop} {K G : PH} {s : Shared}
structure NewAt (N : Addr → Prop) (K G : PH) (env : Env) (σ : Sto) (D : Addr) (s : Shared) : Prop where
 own : Own N K G env D
 cells : ∀ x c, env.cells.lookup x = some c → c ≠ D
 held : ∀ x sv v, σ.lookup x = some sv → sv.owned = true → Holds s.heap env x v → v ≠ .ref D
theorem NewAt.ofLS {D : Addr} (L : LS W N K G env wr σ [D] s) : NewAt N K G env σ D s where
 own := ⟨L.k D (by simp), L.gw D (by simp), fun h => L.n D h (by simp), fun q => L.lw (q ▸ by simp)⟩
 cells := fun x c e q => L.c x c e (q ▸ by simp)
 held := fun x sv v hx ho hv => by
  refine o1_2 (L.st.vars x sv hx) fun v' h1 h2 => ?_
  have := h1.fn hv; subst this
  exact L.ow x sv v' D hx ho h1 h2 (by simp)
theorem Holds.but {h h' : Heap} {D : Addr} {x : Str} {v : Value} (hs : Heap.SameBut D h h') (hl : D ≠ env.locals) (hc : ∀ x c, env.cells.lookup x = some c → c ≠ D) (H : Holds h env x v) : Holds h' env x v := by
 rcases H with ⟨k, m, a, b⟩ | ⟨k, c, a, b⟩
 ·exact .inl ⟨k, m, a.sameBut hs (Ne.symm hl), b⟩
 ·exact .inr ⟨k, c, a, b.sameBut hs (hc _ _ a)⟩
theorem NewAt.but {D : Addr} {h' : Heap} {tk : Nat} (X : NewAt N K G env σ D s) (S : St W N K G env wr σ s) (hs : Heap.SameBut D s.heap h') : NewAt N K G env σ D { s with heap := h', toks := tk } :=
 ⟨X.own, X.cells, fun x sv v hx ho hv => by
  refine o1_2 (S.vars x sv hx) fun v' h1 _ => ?_
  have := (h1.but hs X.own.l X.cells).fn hv; subst this
  exact X.held x sv _ hx ho h1⟩
theorem LS.endAt {D : Addr} {h' : Heap} {tk : Nat} (L : LS W N K G env wr σ [D] s) (hs : Heap.SameBut D s.heap h') : St W N K G env wr σ { s with heap := h', toks := tk } ∧ NewAt N K G env σ D { s with heap := h', toks := tk } := by
 have S := L.off (h' := h') (tk := tk) fun b o hb e => (hs.2 b (fun q => hb (by rw [q]; simp))).trans e
 have S₀ := L.off (h' := s.heap) (tk := s.toks) fun b o hb e => e
 exact ⟨S, (NewAt.ofLS L).but S₀ hs⟩
theorem new_ne_sys (S : Hp W N G s) : (s.heap.objs.size == sysModules) = false := by
 have h : s.heap.Ns mainGlobals W.mg := W.T.g.keeps S.base
 refine o3_2 h fun o es ep e _ => ?_; clear h
 have := Heap.lt_size e
 have h2 : mainGlobals < s.heap.objs.size := this
 have h3 : (sysModules : Nat) ≤ mainGlobals := by decide
 exact beq_eq_false_iff_ne.mpr fun q => by
  have q' : s.heap.objs.size = (sysModules : Nat) := q
  rw [q'] at h2
  exact absurd h2 (by decide)
def EvKV (W : Wd) (n : Nat) (env : Env) (wr : List Str) : List (Option Expr) → List Expr → Sto → (List (Str × PV) → Sto → Prop) → Prop
 | some k :: ks, v :: vs, σ, Ψ => Ev W n env wr k σ fun p σ₁ => ∃ x, p = .str x ∧ Ev W n env wr v σ₁ fun q σ₂ => EvKV W n env wr ks vs σ₂ fun es σ₃ => Ψ ((x, q) :: es) σ₃
 | _, _, σ, Ψ => Ψ [] σ
def mput (es : List (Str × PV)) : List (Str × PV) := es.foldl (fun acc kv => dput acc kv.1 kv.2) []
theorem RepKV.mono' {G' : PH} (g : G.Le G') {es : List (Str × PV)} {kvs : List (Str × Value)} (h : RepKV W G es kvs) : RepKV W G' es kvs := RepKV.mono g _ _ h
theorem RepKV.foldl : ∀ {es : List (Str × PV)} {kvs : List (Str × Value)} {fs : List (Str × PV)} {ls : List (Str × Value)}, RepKV W G fs ls → RepKV W G es kvs →
  RepKV W G (es.foldl (fun acc kv => dput acc kv.1 kv.2) fs) (kvs.foldl (fun acc kv => PySem.stored acc kv.1 kv.2) ls)
 | [], _, _, _, h, r => by obtain rfl := r; exact h
 | (k, p) :: es, _, fs, ls, h, r => by
  refine o2_3 r fun v r' zc h1 h2 => ?_; clear r; obtain rfl := zc
  have a := RepKV.stored (k := k) h h1
  exact RepKV.foldl (fs := dput fs k p) (ls := PySem.stored ls k v) (es := es) (kvs := r') a h2
theorem EvKV.wp {A : Around} {pos : Pos} (R : Room A n) : ∀ (ks : List (Option Expr)) (vs : List Expr) (σ : Sto) (Ψ : List (Str × PV) → Sto → Prop) (G : PH) (s : Shared), EvKV W n env wr ks vs σ Ψ → St W N K G env wr σ s →
  wpAny W.M A (evalPairs (pairTrees ks vs env pos)) (fun l s' => ∃ G' es kvs σ', G.Le G' ∧ St W N K G' env wr σ' s' ∧ RepKV W G' es kvs ∧ Carries W.knd l kvs ∧ Ψ es σ') NoE s
 | some k :: ks, v :: vs, σ, Ψ, G, s, h, S => by
  have h : Ev W n env wr k σ fun p σ₁ => ∃ x, p = .str x ∧ Ev W n env wr v σ₁ fun q σ₂ => EvKV W n env wr ks vs σ₂ fun es σ₃ => Ψ ((x, q) :: es) σ₃ := h
  refine evalPairs_cons (bE (h A N K G s R S) fun a p σ₁ G₁ s₁ g₁ S₁ r₁ zz => o1_2 zz fun x e h₁ => ?_)
  subst e; refine o1_1 r₁.str_inv fun t zb => ?_; obtain rfl := zb
  refine wpAny_bind (bE (h₁ A N K G₁ s₁ R S₁) fun b q σ₂ G₂ s₂ g₂ S₂ r₂ h₂ => wpAny_bind (wpAny_standAt (wpAny_pure ?_)))
  refine wpAny_mono (EvKV.wp R ks vs σ₂ _ G₂ s₂ h₂ S₂) (fun l s₃ zz => o4_5 zz fun G₃ es kvs σ₃ g₃ S₃ r₃ c₃ h₃ => ?_) fun _ _ x => x
  exact (i4_5 G₃ ((x, q) :: es) ((x, b) :: kvs) σ₃ ((g₁.trans g₂).trans g₃) S₃ (by exact i2_3 _ _ rfl (Rep.mono g₃ _ _ r₂) r₃) ⟨strKind_is _ _ x t, rfl, c₃⟩ h₃)
 | [], vs, σ, Ψ, G, s, h, S => wpAny_pure (i4_5 G ([]) ([]) σ (PH.Le.refl G) S rfl trivial h)
 | none :: ks, vs, σ, Ψ, G, s, h, S => wpAny_pure (i4_5 G ([]) ([]) σ (PH.Le.refl G) S rfl trivial h)
 | some k :: ks, [], σ, Ψ, G, s, h, S => wpAny_pure (i4_5 G ([]) ([]) σ (PH.Le.refl G) S rfl trivial h)
inductive MadeD (W : Wd) (N : Addr → Prop) (K G : PH) (env : Env) (wr : List Str) (Ψ : List (Str × PV) → Sto → Prop) (v : Value) (s' : Shared) : Prop where
 | mk : ∀ D G' σ₁ es o kvs, v = .ref D → G.Le G' → St W N K G' env wr σ₁ s' → NewAt N K G' env σ₁ D s' → s'.heap.get? D = some o → o.IsDictOf W.knd kvs → RepKV W G' (mput es) kvs → (D == sysModules) = false → Ψ es σ₁ → MadeD W N K G env wr Ψ v s'
theorem dict_core {A : Around} {keys : List (Option Expr)} {values : List Expr} {pos : Pos} {Ψ : List (Str × PV) → Sto → Prop} (R : Room A n) (S : St W N K G env wr σ s)
  (h : EvKV W n env wr keys values σ Ψ) (hk : (keys.all fun x => x.isSome) = true) (hl : keys.length = values.length) (hne : keys ≠ []) (h15 : keys.length ≤ 15) :
  wpAny W.M A (eval (.Dict keys values pos) env) (MadeD W N K G env wr Ψ) NoE s := by
 refine wpAny_Dict_walk (knd := W.knd) hk hl hne h15 ?_
 have D₀ : Heap.DictOf W.knd (s.heap.push { cls := .type "dict", data := .dict #[] }) s.heap.objs.size [] := Heap.DictOf.new _
 have L := LS.start (ws := [s.heap.objs.size]) (h' := s.heap.push { cls := .type "dict", data := .dict #[] }) (tk := s.toks) S (HLeF.push _ _) (fun b hb => by rw [List.mem_singleton.mp hb]; exact new_none _) (fun b hb => by rw [List.mem_singleton.mp hb]; exact ⟨_, Heap.get?_push_size _ rfl⟩)
 refine wpAny_mono (EvKV.wp R keys values σ Ψ G _ h L.st) (fun l s₁ zz => o4_5 zz fun G₁ es kvs σ₁ g₁ S₁ r₁ c₁ h₁ => ?_) fun _ _ x => x
 have L₁ := L.body S₁
 refine (i1_3 kvs c₁ ?_ (fun h' hd hs => ?_))
 ·refine o1_2 (Heap.dictOf_iff.mp D₀) fun o ho hd => ?_
  exact Heap.dictOf_iff.mpr (i1_2 o (L.bodySame S₁ _ (by simp) o ho) hd)
 ·refine o0_2 (L₁.endAt (tk := s₁.toks + l.length) hs) fun S₂ X => ?_
  refine o1_2 (Heap.dictOf_iff.mp hd) fun o ho hd => ?_
  exact ⟨_, G₁, σ₁, es, o, _, rfl, g₁, S₂, X, ho, hd, by unfold mput; exact RepKV.foldl (show RepKV W G₁ [] [] from rfl) r₁, new_ne_sys S.hp, h₁⟩
theorem dict_empty {A : Around} {pos : Pos} (R : Room A n) (S : St W N K G env wr σ s) : wpAny W.M A (eval (.Dict [] [] pos) env) (MadeD W N K G env wr fun es σ' => es = [] ∧ σ' = σ) NoE s := by
 refine wpAny_Dict_empty ?_
 have L := LS.start (ws := [s.heap.objs.size]) (h' := s.heap.push { cls := .type "dict", data := .dict #[] }) (tk := s.toks) S (HLeF.push _ _) (fun b hb => by rw [List.mem_singleton.mp hb]; exact new_none _) (fun b hb => by rw [List.mem_singleton.mp hb]; exact ⟨_, Heap.get?_push_size _ rfl⟩)
 have D₀ : Heap.DictOf W.knd (s.heap.push { cls := .type "dict", data := .dict #[] }) s.heap.objs.size [] := Heap.DictOf.new _
 refine o1_2 (Heap.dictOf_iff.mp D₀) fun o ho hd => ?_
 exact ⟨_, G, σ, [], o, [], rfl, PH.Le.refl G, L.off (fun _ _ _ e => e), (NewAt.ofLS L), ho, hd, (show RepKV W G [] [] from rfl), new_ne_sys S.hp, rfl, rfl⟩
theorem MadeD.fz {Ψ : PV → Sto → Prop} {v : Value} (x : MadeD W N K G env wr (fun es σ' => Ψ (.dict (mput es)) σ') v s) : EPost W N K G env wr Ψ v s := by
 obtain ⟨D, G', σ₁, es, o, kvs, rfl, g, S, X, ho, hd, r, hm, h⟩ := x
 have le := PH.Le.add (o := o) X.own.g
 exact ⟨_, _, σ₁, g.trans le, S.addG X.own ho X.cells X.held, by exact i3_5 D o kvs rfl (PH.add_self ..) hd hm (r.mono' le), h⟩
theorem MadeD.put {A : Around} {x : Str} {Φ : PF → Sto → Prop} {v : Value} (hw : Writable env wr x) (y : MadeD W N K G env wr (fun es σ' => ∀ c, Φ .next (σ'.put x (.od c (mput es)))) v s) :
  wpAny W.M A (storeName env x v) (fun _ s' => FPost W N K G env wr Φ .next s') NoE s := by
 obtain ⟨D, G', σ₁, es, o, kvs, rfl, g, S, X, ho, hd, r, hm, h⟩ := y
 exact S.store (sv := .od D (mput es)) hw ⟨D, o, kvs, rfl, ho, hd, hm, r, X.own, rfl⟩ (fun _ y sy _ hx hy hv => X.held y sy _ hx hy hv rfl) fun s' S' => ⟨G', .next, _, g, S', rfl, h D⟩
theorem Ev.dict {keys : List (Option Expr)} {values : List Expr} {pos : Pos} {Ψ : PV → Sto → Prop} (h : EvKV W n env wr keys values σ fun es σ' => Ψ (.dict (mput es)) σ')
  (hk : (keys.all fun x => x.isSome) = true := by with_unfolding_all rfl) (hl : keys.length = values.length := by with_unfolding_all rfl) (hne : keys ≠ [] := by exact List.cons_ne_nil _ _) (h15 : keys.length ≤ 15 := by decide) : Ev W n env wr (.Dict keys values pos) σ Ψ :=
 fun A N K G s R S => wpAny_mono (dict_core R S h hk hl hne h15) (fun _ _ x => x.fz) fun _ _ x => x
theorem Ev.dict0 {pos : Pos} {Ψ : PV → Sto → Prop} (h : Ψ (.dict []) σ) : Ev W n env wr (.Dict [] [] pos) σ Ψ :=
 fun A N K G s R S => wpAny_mono (dict_empty R S) (fun v s' ⟨D, G', σ₁, es, o, kvs, a, b, c, d, e, f, g, i, j, k⟩ => MadeD.fz ⟨D, G', σ₁, es, o, kvs, a, b, c, d, e, f, g, i, by rw [j, k]; exact h⟩) fun _ _ x => x
abbrev KDict (x : Str) (Φ : PF → Sto → Prop) (es : List (Str × PV)) (σ : Sto) : Prop := ∀ c, Φ .next (σ.put x (.od c (mput es)))
abbrev KOl (x : Str) (Φ : PF → Sto → Prop) (ps : List PV) (σ : Sto) : Prop := ∀ c, Φ .next (σ.put x (.ol c ps))
theorem Ex1.dict {x : Str} {px pos' pos : Pos} {keys : List (Option Expr)} {values : List Expr} {Φ : PF → Sto → Prop} (hw : Writable env wr x) (h : EvKV W n env wr keys values σ (KDict x Φ))
  (hs : swapsWith (.Dict keys values pos') (some (.Name x px)) pos.line env = pure false := by with_unfolding_all rfl)
  (hk : (keys.all fun x => x.isSome) = true := by with_unfolding_all rfl) (hl : keys.length = values.length := by with_unfolding_all rfl) (hne : keys ≠ [] := by exact List.cons_ne_nil _ _) (h15 : keys.length ≤ 15 := by decide) :
  Ex1 W n env wr (.Assign [.Name x px] (.Dict keys values pos') pos) σ Φ :=
 fun A N K G s R S => wpAny_Assign_Name (hs := hs) (wpAny_mono (dict_core R S h hk hl hne h15) (fun _ _ y => y.put hw) fun _ _ x => x)
theorem Ex1.dict0 {x : Str} {px pos' pos : Pos} {Φ : PF → Sto → Prop} (hw : Writable env wr x) (h : ∀ c, Φ .next (σ.put x (.od c [])))
  (hs : swapsWith (.Dict [] [] pos') (some (.Name x px)) pos.line env = pure false := by with_unfolding_all rfl) :
  Ex1 W n env wr (.Assign [.Name x px] (.Dict [] [] pos') pos) σ Φ :=
 fun A N K G s R S => wpAny_Assign_Name (hs := hs) (wpAny_mono (dict_empty R S) (fun v s' ⟨D, G', σ₁, es, o, kvs, a, b, c, d, e, f, g, i, j, k⟩ => MadeD.put hw ⟨D, G', σ₁, es, o, kvs, a, b, c, d, e, f, g, i, by rw [j, k]; exact h⟩) fun _ _ x => x)
theorem Ex1.list {x : Str} {px pos' pos : Pos} {es : List Expr} {Φ : PF → Sto → Prop} (hw : Writable env wr x) (h : Evs W n env wr es σ fun ps σ' => ps.length ≤ sizeLine ∧ ∀ c, Φ .next (σ'.put x (.ol c ps)))
  (hn : noStar es = true := by with_unfolding_all rfl) (hs : swapsWith (.List es pos') (some (.Name x px)) pos.line env = pure false := by with_unfolding_all rfl) :
  Ex1 W n env wr (.Assign [.Name x px] (.List es pos') pos) σ Φ :=
 fun A N K G s R S => wpAny_Assign_Name (hs := hs) (wpAny_List (bL (Evs.wp R es σ _ G s hn h S) fun vs ps σ₁ G₁ s₁ g₁ S₁ r₁ h₁ => ⟨by rw [r₁.length]; exact h₁.1, by
  have L := LS.start (ws := [s₁.heap.objs.size]) (h' := s₁.heap.push { cls := .type "list", data := .seq vs.toArray }) (tk := s₁.toks) S₁ (HLeF.push _ _) (fun b hb => by rw [List.mem_singleton.mp hb]; exact new_none _) (fun b hb => by rw [List.mem_singleton.mp hb]; exact ⟨_, Heap.get?_push_size _ rfl⟩)
  have S₂ := L.off (h' := s₁.heap.push { cls := .type "list", data := .seq vs.toArray }) (tk := s₁.toks) (fun _ _ _ e => e)
  have X := NewAt.ofLS L
  exact S₂.store (sv := .ol s₁.heap.objs.size ps) hw ⟨_, _, vs.toArray, 0, rfl, Heap.get?_push_size _ rfl, rfl, rfl, by simpa using r₁, X.own, rfl⟩ (fun _ y sy _ hx hy hv => X.held y sy _ hx hy hv rfl)
   fun s' S' => ⟨G₁, .next, _, g₁, S', rfl, h₁.2 _⟩⟩))
end Mine
end
section
open PySem PySem.W PyProof.Rows PySem.Calls
namespace Mine
variable {W : Wd} {n : Nat} {env : Env} {wr : List Str} {σ : Sto} {N : Addr → Prop} {K G : PH} {s : Shared}
inductive OlAt (W : Wd) (N : Addr → Prop) (K G : PH) (env : Env) (x : Str) (c : Addr) (xs : List PV) (s : Shared) : Prop where
 | mk : ∀ vs m, Holds s.heap env x (.ref c) → s.heap.get? c = some { cls := .type "list", data := .seq vs m } → Reps W G xs vs.toList → Own N K G env c → OlAt W N K G env x c xs s
inductive OdAt (W : Wd) (N : Addr → Prop) (K G : PH) (env : Env) (x : Str) (c : Addr) (es : List (Str × PV)) (s : Shared) : Prop where
 | mk : ∀ o kvs, Holds s.heap env x (.ref c) → s.heap.get? c = some o → o.IsDictOf W.knd kvs → (c == sysModules) = false → RepKV W G es kvs → Own N K G env c → OdAt W N K G env x c es s
theorem St.ol {x : Str} {c : Addr} {xs : List PV} (S : St W N K G env wr σ s) (hx : σ.lookup x = some (.ol c xs)) :
  OlAt W N K G env x c xs s := by
 refine o1_2 (S.vars x _ hx) fun v h1 zz => ?_; obtain ⟨a, o, vs, m, rfl, h2, rfl, h4, h5, h6⟩ := zz
 have := h6.at_; subst this
 exact ⟨vs, m, h1, h2, h5, h6.toOwn⟩
theorem St.od {x : Str} {c : Addr} {es : List (Str × PV)} (S : St W N K G env wr σ s) (hx : σ.lookup x = some (.od c es)) :
  OdAt W N K G env x c es s := by
 refine o1_2 (S.vars x _ hx) fun v h1 zz => ?_; obtain ⟨a, o, kvs, rfl, h2, h3, h4, h5, h6⟩ := zz
 have := h6.at_; subst this
 exact ⟨o, kvs, h1, h2, h3, h4, h5, h6.toOwn⟩
theorem St.mut {x : Str} {c : Addr} {sv sv' : SV} {h' : Heap} {tk : Nat} (S : St W N K G env wr σ s) (hx : σ.lookup x = some sv) (ho : sv.owned = true) (hh : Holds s.heap env x (.ref c)) (oc : Own N K G env c)
  (hs : Heap.SameBut c s.heap h') (hb : ∃ o, h'.get? c = some o) (hsv : SRep W N K G env h' sv' (.ref c)) : St W N K G env wr (σ.put x sv') { s with heap := h', toks := tk } := by
 refine o1_2 (S.vars x sv hx) fun v h1 h2 => ?_
 have := h1.fn hh; subst this
 refine o1_1 S.ns fun m hn => ?_
 have nc : ∀ c' u, s.heap.IsCell c' u → c' ≠ c := fun c' u hc q => h2.not_cell hc ho (by rw [q])
 have oth : ∀ y v', Holds s.heap env y v' → Holds h' env y v' := fun y v' hv => by
  rcases hv with ⟨k, m, a, b⟩ | ⟨k, c', a, b⟩
  ·exact .inl ⟨k, m, a.sameBut hs (Ne.symm oc.l), b⟩
  ·exact .inr ⟨k, c', a, b.sameBut hs (nc _ _ b)⟩
 refine S.put_core (b := c) hs hb (fun q => oc.n (q ▸ S.sd.pl)) oc.k oc.g ⟨m, hn.sameBut hs (Ne.symm oc.l)⟩ (fun y v' _ hv => oth y v' hv) (oth _ _ hh) hsv (fun y sy v' hyx hy hyo hv q => ?_) (fun z hz => ?_) fun _ y sy hyx hy hyo hv => ?_
 ·subst q; exact hyx (S.apart y x sy sv _ hy hx hyo ho hv hh)
 ·refine o2_5 (S.cells z hz) fun c' u k1 k2 k3 k4 k5 => ?_
  exact (i2_5 c' u k1 k2 (k3.sameBut hs (nc _ _ k3)) k4 k5)
 ·exact hyx (S.apart y x sy sv _ hy hx hyo ho hv hh)
theorem Ev.borrow {x : Str} {sv : SV} {c : Addr} {pos : Pos} {Ψ : PV → Sto → Prop} (hx : σ.lookup x = some sv) (hc : (∃ xs, sv = .ol c xs) ∨ ∃ es, sv = .od c es) (h : Ψ (.val (.ref c)) σ)
  (hd : (x == ("__debug__" : Str)) = false := by decide) (hn : (x == ("__classdict__" : Str)) = false := by decide) : Ev W n env wr (.Name x pos) σ Ψ :=
 fun _ _ _ G s _ S => by
  have hh : Holds s.heap env x (.ref c) := by
   rcases hc with ⟨xs, rfl⟩ | ⟨es, rfl⟩
   ·obtain ⟨_, _, a, _⟩ := S.ol hx; exact a
   ·obtain ⟨_, _, a, _⟩ := S.od hx; exact a
  exact wpAny_Name (S.load hh ⟨G, _, σ, PH.Le.refl G, S, by exact rfl, h⟩ hn) hd
theorem Ev.borrowL {x : Str} {xs : List PV} {c : Addr} {pos : Pos} {Ψ : PV → Sto → Prop} (hx : σ.lookup x = some (.ol c xs)) (h : Ψ (.val (.ref c)) σ)
  (hd : (x == ("__debug__" : Str)) = false := by decide) (hn : (x == ("__classdict__" : Str)) = false := by decide) : Ev W n env wr (.Name x pos) σ Ψ := Ev.borrow hx (.inl ⟨_, rfl⟩) h hd hn
theorem Ev.borrowD {x : Str} {es : List (Str × PV)} {c : Addr} {pos : Pos} {Ψ : PV → Sto → Prop} (hx : σ.lookup x = some (.od c es)) (h : Ψ (.val (.ref c)) σ)
  (hd : (x == ("__debug__" : Str)) = false := by decide) (hn : (x == ("__classdict__" : Str)) = false := by decide) : Ev W n env wr (.Name x pos) σ Ψ := Ev.borrow hx (.inr ⟨_, rfl⟩) h hd hn
section
variable (W : Wd) (n : Nat) (env : Env) (wr : List Str)
def SubS (v i : Expr) (p q : PV) (σ : Sto) (Ψ : PV → Sto → Prop) : Prop :=
 ∀ A N K G s a b, Room A n → St W N K G env wr σ s → Rep W G p a → Rep W G q b → wpAny W.M A (subscriptTail v i a b) (EPost W N K G env wr Ψ) NoE s
def CmpS (op : CmpOp) (p q : PV) (σ : Sto) (Ψ : PV → Sto → Prop) : Prop :=
 ∀ A N K G s a b, Room A n → St W N K G env wr σ s → Rep W G p a → Rep W G q b → wpAny W.M A (compareOp op a b) (EPost W N K G env wr Ψ) NoE s
def CallS (f : Value) (ps : List PV) (σ : Sto) (Ψ : PV → Sto → Prop) : Prop :=
 ∀ A N K G s vs, Room A n → St W N K G env wr σ s → Reps W G ps vs → wpAny W.M A (call f vs) (EPost W N K G env wr Ψ) NoE s
def MethS (name : Str) (p : PV) (σ : Sto) (f : Value) : Prop :=
 ∀ A N K G s v pl (Q : Value × List Value → Shared → Prop), St W N K G env wr σ s → Rep W G p v → Q (f, [v]) s → wpAny W.M A (getMethod v name pl) Q NoE s
end
abbrev KSub2 (W : Wd) (n : Nat) (env : Env) (wr : List Str) (v i : Expr) (p : PV) (Ψ : PV → Sto → Prop) (q : PV) (σ : Sto) : Prop := SubS W n env wr v i p q σ Ψ
abbrev KSub (W : Wd) (n : Nat) (env : Env) (wr : List Str) (v i : Expr) (Ψ : PV → Sto → Prop) (p : PV) (σ : Sto) : Prop := Ev W n env wr i σ (KSub2 W n env wr v i p Ψ)
abbrev KCmS2 (W : Wd) (n : Nat) (env : Env) (wr : List Str) (op : CmpOp) (p : PV) (Ψ : PV → Sto → Prop) (q : PV) (σ : Sto) : Prop := CmpS W n env wr op p q σ Ψ
abbrev KCmS (W : Wd) (n : Nat) (env : Env) (wr : List Str) (op : CmpOp) (r : Expr) (Ψ : PV → Sto → Prop) (p : PV) (σ : Sto) : Prop := Ev W n env wr r σ (KCmS2 W n env wr op p Ψ)
abbrev KCall (W : Wd) (n : Nat) (env : Env) (wr : List Str) (f : Value) (Ψ : PV → Sto → Prop) (ps : List PV) (σ : Sto) : Prop := CallS W n env wr f ps σ Ψ
abbrev KCallM (W : Wd) (n : Nat) (env : Env) (wr : List Str) (f : Value) (p : PV) (Ψ : PV → Sto → Prop) (ps : List PV) (σ : Sto) : Prop := CallS W n env wr f (p :: ps) σ Ψ
inductive KMeth (W : Wd) (n : Nat) (env : Env) (wr : List Str) (name : Str) (es : List Expr) (Ψ : PV → Sto → Prop) (p : PV) (σ : Sto) : Prop where
 | mk (f : Value) (m : MethS W env wr name p σ f) (k : KeepOk W f) (h : Evs W n env wr es σ (KCallM W n env wr f p Ψ)) : KMeth W n env wr name es Ψ p σ
theorem Ev.subS {v i : Expr} {pos : Pos} {Ψ : PV → Sto → Prop}
  (h : Ev W n env wr v σ (KSub W n env wr v i Ψ)) : Ev W n env wr (.Subscript v i pos) σ Ψ :=
 fun A N K G s R S => Subscript_ (bE (h A N K G s R S) fun a p σ₁ G₁ s₁ g₁ S₁ r₁ h₁ =>
  bE (h₁ A N K G₁ s₁ R S₁) fun b q σ₂ G₂ s₂ g₂ S₂ r₂ h₂ => fE (g₁.trans g₂) (h₂ A N K G₂ s₂ a b R S₂ (Rep.mono g₂ _ _ r₁) r₂))
theorem Tst.cmpS {l r : Expr} {op : CmpOp} {pos : Pos} {Φ : Bool → Sto → Prop}
  (h : Ev W n env wr l σ (KCmS W n env wr op r (KTst Φ)))
  (hm : behindInMarks op r = false := by with_unfolding_all rfl) : Tst W n env wr (.Compare l [op] [r] pos) σ Φ :=
 fun A N K G s R S => wpAny_isTrue_Compare1 (hm := hm) (bE (h A N K G s R S) fun a p σ₁ G₁ s₁ g₁ S₁ r₁ h₁ =>
  bE (h₁ A N K G₁ s₁ R S₁) fun b q σ₂ G₂ s₂ g₂ S₂ r₂ h₂ =>
   bE (h₂ A N K G₂ s₂ a b R S₂ (Rep.mono g₂ _ _ r₁) r₂) fun v c σ₃ G₃ s₃ g₃ S₃ r₃ h₃ => by
    cases h₃ with
    | mk h₃ => obtain rfl := r₃; exact wpAny_truthy_bool ⟨G₃, σ₃, (g₁.trans g₂).trans g₃, S₃, h₃⟩)
theorem Ev.callS {fx : Expr} {es : List Expr} {pos : Pos} {Ψ : PV → Sto → Prop}
  (h : Ev W n env wr fx σ fun pf σ₁ => ∃ f, pf = .val f ∧ KeepOk W f ∧ Evs W n env wr es σ₁ (KCall W n env wr f Ψ))
  (hn : noStar es = true := by with_unfolding_all rfl) (he : eval (.Call fx es [] pos) env = (do callWith pos (← eval fx env) [] (backTo pos (starEach es env)) (backToKw pos (keywordEach [] env))) := by with_unfolding_all rfl) : Ev W n env wr (.Call fx es [] pos) σ Ψ :=
 fun A N K G s R S => by
  rw [he]
  refine wpAny_bind (bE (h A N K G s R S) fun v p σ₁ G₁ s₁ g₁ S₁ r₁ zz => o1_3 zz fun f e hk h₁ => ?_)
  subst e; obtain rfl := r₁
  exact fE g₁ (callWith_wp (first := []) R hk hn h₁ S₁ fun vs ps σ₂ G₂ s₂ g₂ S₂ r₂ h₂ => h₂ A N K G₂ s₂ vs R S₂ r₂)
theorem Ev.methS {o : Expr} {name : Str} {apos pos : Pos} {es : List Expr} {pl : Sem Bool} {Ψ : PV → Sto → Prop}
  (h : Ev W n env wr o σ (KMeth W n env wr name es Ψ))
  (hn : noStar es = true := by with_unfolding_all rfl)
  (he : eval (.Call (.Attribute o name apos) es [] pos) env = (do
   let ov ← eval o env
   standAt apos.atName
   let (f, first) ← holding [ov] (getMethod ov name pl)
   callWith pos f first (backTo pos (starEach es env)) []) := by with_unfolding_all rfl) : Ev W n env wr (.Call (.Attribute o name apos) es [] pos) σ Ψ := fun A N K G s R S =>
 MethodCall_ (bE (h A N K G s R S) fun v p σ₁ G₁ s₁ g₁ S₁ r₁ ⟨f, hm, hk, h₁⟩ => hm A N K G₁ s₁ v pl _ S₁ r₁ (fE g₁ (callWith_wp (first := [v]) R hk hn h₁ S₁ fun vs ps σ₂ G₂ s₂ g₂ S₂ r₂ h₂ =>
  h₂ A N K G₂ s₂ (v :: vs) R S₂ (Reps.cons (Rep.mono g₂ _ _ r₁) r₂)))) he
theorem SubS.list {v i : Expr} {x : Str} {c : Addr} {xs : List PV} {k : Int} {p : PV} {Ψ : PV → Sto → Prop} (hx : σ.lookup x = some (.ol c xs)) (h0 : 0 ≤ k) (h1 : k < 2 ^ 62) (hp : xs[k.toNat]? = some p) (h : Ψ p σ) :
  SubS W n env wr v i (.val (.ref c)) (.int k) σ Ψ := fun A N K G s a b R S ra rb => by
 have := ra.val_inv; subst this; refine o1_1 rb.int_inv fun u zb => ?_; obtain rfl := zb
 obtain ⟨vs, m, hh, e, rs, o⟩ := S.ol hx
 refine o1_2 (rs.at hp) fun w e' r => ?_
 have hl : s.heap.IsList c vs := ⟨_, e, rfl, m, rfl⟩
 exact subTail hl.typeIs slot_list_getitem.lookup (wpAny_getItem_list hl h0 (by omega) (by simpa using e') ⟨G, p, σ, PH.Le.refl G, S, r, h⟩)
theorem SubS.dict {v i : Expr} {x : Str} {c : Addr} {es : List (Str × PV)} {k : Str} {p : PV} {Ψ : PV → Sto → Prop} (hx : σ.lookup x = some (.od c es)) (hp : dget es k = some p) (h : Ψ p σ) :
  SubS W n env wr v i (.val (.ref c)) (.str k) σ Ψ := fun A N K G s a b R S ra rb => by
 have := ra.val_inv; subst this; refine o1_1 rb.str_inv fun t zb => ?_; obtain rfl := zb
 obtain ⟨o, kvs, hh, e, hd, hm, rs, _⟩ := S.od hx
 have D := (dictOf_at e hd).mapOf
 rcases rs.at_ k with ⟨_, e⟩ | ⟨u, q, e1, e2, r⟩
 ·rw [e] at hp; cases hp
 ·rw [e2] at hp; cases hp
  exact subTail D.typeIs F.slot_dict_getitem.lookup (wpAny_getItem_of (strKind_is _ _ k t) D e1 ⟨G, _, σ, PH.Le.refl G, S.tok _, r, h⟩)
theorem CmpS.inD {x : Str} {c : Addr} {es : List (Str × PV)} {k : Str} {Ψ : PV → Sto → Prop} (hx : σ.lookup x = some (.od c es)) (h : Ψ (.bool (dget es k).isSome) σ) :
  CmpS W n env wr .In (.str k) (.val (.ref c)) σ Ψ := fun A N K G s a b R S ra rb => by
 have := rb.val_inv; subst this; refine o1_1 ra.str_inv fun t zb => ?_; obtain rfl := zb
 obtain ⟨o, kvs, hh, e, hd, hm, rs, _⟩ := S.od hx
 have D := (dictOf_at e hd).mapOf
 refine wpAny_in_of (strKind_is _ _ k t) hm D ⟨G, _, σ, PH.Le.refl G, S.tok _, ?_, h⟩
 rcases rs.at_ k with ⟨e1, e2⟩ | ⟨u, q, e1, e2, r⟩ <;> rw [e1, e2] <;> exact Rep.b
theorem CmpS.inL {x : Str} {c : Addr} {ys : List Str} {k : Str} {Ψ : PV → Sto → Prop} (hx : σ.lookup x = some (.ol c (ys.map .str))) (h : Ψ (.bool (ys.any fun x => x == k)) σ) :
  CmpS W n env wr .In (.str k) (.val (.ref c)) σ Ψ := fun A N K G s a b R S ra rb => by
 have := rb.val_inv; subst this; refine o1_1 ra.str_inv fun t zb => ?_; obtain rfl := zb
 obtain ⟨vs, m, hh, e, rs, o⟩ := S.ol hx
 refine o1_2 rs.strs fun l' e1 e' => ?_
 have e2 : vs = (strValues l').toArray := Array.toList_inj.mp (by rw [e1])
 subst e'; subst e2
 exact in_list_strs (Q := EPost W N K G env wr Ψ) ⟨_, e, rfl, m, rfl⟩ (strsAre_of_values l') ⟨G, _, σ, PH.Le.refl G, S, Rep.b, h⟩
theorem CallS.len {x : Str} {c : Addr} {xs : List PV} {Ψ : PV → Sto → Prop} (hx : σ.lookup x = some (.ol c xs)) (hs : (xs.length : Int) < 2 ^ 62) (h : Ψ (.int (xs.length : Int)) σ) :
  CallS W n env wr (.builtin "len") [.val (.ref c)] σ Ψ := fun A N K G s vs R S rv => by
 refine o1_2 rv.inv1 fun a zb ra => ?_; obtain rfl := zb; have := ra.val_inv; subst this
 obtain ⟨vs, m, hh, e, rs, o⟩ := S.ol hx
 have hsz : vs.size = xs.length := by simpa using rs.length
 exact len_list ⟨_, e, rfl, m, rfl⟩ (by rw [hsz]; omega) (by rw [hsz]; exact ⟨G, _, σ, PH.Le.refl G, S.tok _, Rep.i, h⟩)
theorem MethS.list {x name : Str} {c : Addr} {xs : List PV} {id : String} (hx : σ.lookup x = some (.ol c xs)) (slot : Slot "list" name id) (ty : typeOf (.builtin id) = pure (.type "method_descriptor")) : MethS W env wr name (.val (.ref c)) σ (.builtin id) := fun A N K G s v pl Q S r h => by
 have := r.val_inv; subst this
 obtain ⟨vs, m, hh, e, rs, o⟩ := S.ol hx
 exact getMethod_builtin ⟨_, e, rfl⟩ PySem.F.plainAttrs_list slot ty (fun a e' => by cases e'; exact (i1_2 _ e rfl)) h
theorem MethS.dict {x name : Str} {c : Addr} {es : List (Str × PV)} {id : String} (hx : σ.lookup x = some (.od c es)) (slot : Slot "dict" name id) (ty : typeOf (.builtin id) = pure (.type "method_descriptor")) : MethS W env wr name (.val (.ref c)) σ (.builtin id) := fun A N K G s v pl Q S r h => by
 have := r.val_inv; subst this
 obtain ⟨o, kvs, hh, e, hd, hm, rs, _⟩ := S.od hx
 have D := (dictOf_at e hd).mapOf
 exact getMethod_builtin D.typeIs F.plainAttrs_dict slot ty D.noDict h
theorem CallS.get2 {x : Str} {c : Addr} {es : List (Str × PV)} {k : Str} {d : PV} {Ψ : PV → Sto → Prop} (hx : σ.lookup x = some (.od c es)) (h : Ψ ((dget es k).getD d) σ) :
  CallS W n env wr (.builtin "dict.get") [.val (.ref c), .str k, d] σ Ψ := fun A N K G s vs R S rv => by
 refine o3_4 rv.inv3 fun a b e zd ra rb rc => ?_; obtain rfl := zd; have := ra.val_inv; subst this; refine o1_1 rb.str_inv fun t zb => ?_; obtain rfl := zb
 obtain ⟨o, kvs, hh, e', hd, hm, rs, _⟩ := S.od hx
 have D := dictOf_at e' hd
 refine call_meetsIn F.slot_dict_get D.mapOf.typeIs F.entry_dict_get (F.args_dict_get_3 _ _ _) (meets_dict_get_default W.knd c (strKind_is _ _ k t) hm e) (i1_2 _ D.mapOf ⟨G, _, σ, PH.Le.refl G, S.tok _, ?_, h⟩)
 rcases rs.at_ k with ⟨e1, e2⟩ | ⟨u, q, e1, e2, r⟩
 ·rw [e1, e2]; exact rc
 ·rw [e1, e2]; exact r
theorem Reps.app : ∀ {ps : List PV} {vs : List Value} {p : PV} {v : Value}, Reps W G ps vs → Rep W G p v → Reps W G (ps ++ [p]) (vs ++ [v])
 | [], _, _, _, h, r => by obtain rfl := h; exact Reps.cons r Reps.nil
 | q :: ps, _, _, _, h, r => by
  refine o2_3 h fun u w zc h1 h2 => ?_; clear h; obtain rfl := zc
  exact Reps.cons h1 (Reps.app h2 r)
theorem CallS.append {x : Str} {c : Addr} {xs : List PV} {p : PV} {Ψ : PV → Sto → Prop} (hx : σ.lookup x = some (.ol c xs)) (hs : xs.length ≤ sizeLine) (h : Ψ .none (σ.put x (.ol c (xs ++ [p])))) :
  CallS W n env wr (.builtin "list.append") [.val (.ref c), p] σ Ψ := fun A N K G s vs R S rv => by
 refine o2_3 rv.inv2 fun a b zc ra rb => ?_; obtain rfl := zc; have := ra.val_inv; subst this
 obtain ⟨vs, m, hh, e, rs, o⟩ := S.ol hx
 have hsz : vs.size = xs.length := by simpa using rs.length
 refine wpAny_list_append_plain ⟨m, e⟩ (fun h' zz hs' => o1_1 zz fun k e' => ?_) (by rw [hsz]; exact hs)
 exact ⟨G, .none, _, PH.Le.refl G, S.mut (sv' := .ol c (xs ++ [p])) (tk := s.toks) hx rfl hh o hs' ⟨_, e'⟩ ⟨c, _, vs.push b, k, rfl, e', rfl, rfl, by rw [Array.toList_push]; exact rs.app rb, ⟨o, rfl⟩⟩, rfl, h⟩
theorem Reps.erase : ∀ {ps : List PV} {vs : List Value} (k : Nat), Reps W G ps vs → Reps W G (ps.eraseIdx k) (vs.eraseIdx k)
 | [], _, _, h => by obtain rfl := h; simp [Reps.nil]
 | q :: ps, _, 0, h => by refine o2_3 h fun u w zc h1 h2 => ?_; clear h; obtain rfl := zc; exact h2
 | q :: ps, _, k + 1, h => by refine o2_3 h fun u w zc h1 h2 => ?_; clear h; obtain rfl := zc; exact Reps.cons h1 (Reps.erase k h2)
theorem CallS.pop {x : Str} {c : Addr} {xs : List PV} {i : Int} {p : PV} {Ψ : PV → Sto → Prop} (hx : σ.lookup x = some (.ol c xs)) (hs : xs.length ≤ sizeLine) (h0 : 0 ≤ i) (hk : i < 2 ^ 62) (hp : xs[i.toNat]? = some p) (h : Ψ p (σ.put x (.ol c (xs.eraseIdx i.toNat)))) :
  CallS W n env wr (.builtin "list.pop") [.val (.ref c), .int i] σ Ψ := fun A N K G s vs R S rv => by
 refine o2_3 rv.inv2 fun a b zc ra rb => ?_; obtain rfl := zc; have := ra.val_inv; subst this; refine o1_1 rb.int_inv fun t zb => ?_; obtain rfl := zb
 obtain ⟨vs, m, hh, e, rs, o⟩ := S.ol hx
 have hsz : vs.size = xs.length := by simpa using rs.length
 refine o1_2 (rs.at hp) fun w e' r => ?_
 have hlt : i.toNat < vs.size := by have := (List.getElem?_eq_some_iff.mp e').1; simpa using this
 have q := PySem.IsL.update e (·.eraseIdxIfInBounds i.toNat)
 have f1 : Builtin.List.listFitsIndex i = true := by
  unfold Builtin.List.listFitsIndex
  rw [Bool.and_eq_true]; exact ⟨decide_eq_true (by omega), decide_eq_true (by omega)⟩
 have f2 : seqIndex? i vs.size = some i.toNat := by have := seqIdx hlt; rwa [Int.toNat_of_nonneg h0] at this
 have f3 : vs[i.toNat]? = some w := by simpa using e'
 have f4 : vs.size ≤ sizeLine := by rw [hsz]; exact hs
 refine call_meets PySem.F.slot_list_pop ⟨_, e, rfl⟩ PySem.F.entry_list_pop (PySem.F.args_list_pop_2 _ _) (PySem.MeetsSeq.list_pop_at c vs m i t i.toNat w f1 f2 f3 f4) ⟨e, ?_⟩
 refine ⟨G, p, _, PH.Le.refl G, S.mut (sv' := .ol c (xs.eraseIdx i.toNat)) (tk := s.toks) hx rfl hh o (Heap.SameBut.update ..) ⟨_, q⟩ ⟨c, _, _, _, rfl, q, rfl, rfl, ?_, ⟨o, rfl⟩⟩, r, h⟩
 have : (vs.eraseIdxIfInBounds i.toNat).toList = vs.toList.eraseIdx i.toNat := by
  unfold Array.eraseIdxIfInBounds; rw [dif_pos hlt, Array.toList_eraseIdx]
 rw [this]; exact rs.erase _
theorem Ex1.expr {e : Expr} {pos : Pos} {Φ : PF → Sto → Prop} (h : Ev W n env wr e σ (KNext Φ))
  (hi : interactive env = false := by with_unfolding_all rfl) (hs : swapsWith e none pos.line env = pure false := by with_unfolding_all rfl) : Ex1 W n env wr (.Expr e pos) σ Φ := fun A N K G s R S =>
 wpAny_Expr_any (wpAny_mono (h A N K G s R S) (fun _ _ ⟨G', p, σ', a, b, c, d⟩ => ⟨G', .next, σ', a, b, rfl, d⟩) fun _ _ x => x) hi hs
theorem Reps.set : ∀ {ps : List PV} {vs : List Value} {p : PV} {v : Value} (k : Nat), Reps W G ps vs → Rep W G p v → Reps W G (ps.set k p) (vs.set k v)
 | [], _, _, _, _, h, _ => by obtain rfl := h; simp [Reps.nil]
 | q :: ps, _, _, _, 0, h, r => by refine o2_3 h fun u w zc h1 h2 => ?_; clear h; obtain rfl := zc; exact Reps.cons r h2
 | q :: ps, _, _, _, k + 1, h, r => by refine o2_3 h fun u w zc h1 h2 => ?_; clear h; obtain rfl := zc; exact Reps.cons h1 (Reps.set k h2 r)
def SetS (W : Wd) (n : Nat) (env : Env) (wr : List Str) (o k v : PV) (σ : Sto) (Φ : Sto → Prop) : Prop :=
 ∀ A N K G s a b u, Room A n → St W N K G env wr σ s → Rep W G o a → Rep W G k b → Rep W G v u → wpAny W.M A (setItem a b u) (UPost W N K G env wr Φ) NoE s
theorem SetS.list {x : Str} {c : Addr} {xs : List PV} {k : Nat} {p : PV} {Φ : Sto → Prop} (hx : σ.lookup x = some (.ol c xs)) (hk : k < xs.length) (hk2 : (k : Int) < 2 ^ 62) (h : Φ (σ.put x (.ol c (xs.set k p)))) :
  SetS W n env wr (.val (.ref c)) (.int (k : Int)) p σ Φ := fun A N K G s a b u R S ra rb ru => by
 have := ra.val_inv; subst this; refine o1_1 rb.int_inv fun t zb => ?_; obtain rfl := zb
 obtain ⟨vs, m, hh, e, rs, o⟩ := S.ol hx
 have hsz : vs.size = xs.length := by simpa using rs.length
 refine ki_setAt e (by with_reducible exact Om.negLe (by decide)) (by omega) (by rw [hsz]; omega) ?_
 have q := PySem.IsL.update (n := m) e (·.setIfInBounds k u)
 refine ⟨G, _, PH.Le.refl G, S.mut (sv' := .ol c (xs.set k p)) (tk := s.toks) hx rfl hh o (Heap.SameBut.update ..) ⟨_, q⟩ ⟨c, _, _, _, rfl, q, rfl, rfl, ?_, ⟨o, rfl⟩⟩, h⟩
 rw [Array.toList_setIfInBounds]; exact rs.set k ru
theorem SetS.dict {x : Str} {c : Addr} {es : List (Str × PV)} {k : Str} {p : PV} {Φ : Sto → Prop} (hx : σ.lookup x = some (.od c es)) (hs : es.length ≤ sizeLine) (h : Φ (σ.put x (.od c (dput es k p)))) :
  SetS W n env wr (.val (.ref c)) (.str k) p σ Φ := fun A N K G s a b u R S ra rb ru => by
 have := ra.val_inv; subst this; refine o1_1 rb.str_inv fun t zb => ?_; obtain rfl := zb
 obtain ⟨o, kvs, hh, e, hd, hm, rs, ow⟩ := S.od hx
 refine wpAny_setItem_pairs (strKind_is _ _ k t) (dictOf_at e hd) (fun h' hd' hs' => ?_) (by rw [rs.length]; exact hs)
 refine o1_2 (Heap.dictOf_iff.mp hd') fun o' e' hd' => ?_
 exact ⟨G, _, PH.Le.refl G, S.mut (sv' := .od c (dput es k p)) (tk := s.toks + 1) hx rfl hh ow hs' ⟨_, e'⟩ ⟨c, o', _, rfl, e', hd', hm, RepKV.stored rs ru, ⟨ow, rfl⟩⟩, h⟩
abbrev KSet3 (W : Wd) (n : Nat) (env : Env) (wr : List Str) (v p : PV) (Φ : PF → Sto → Prop) (q : PV) (σ : Sto) : Prop := SetS W n env wr p q v σ (Φ .next)
abbrev KSet2 (W : Wd) (n : Nat) (env : Env) (wr : List Str) (i : Expr) (v : PV) (Φ : PF → Sto → Prop) (p : PV) (σ : Sto) : Prop := Ev W n env wr i σ (KSet3 W n env wr v p Φ)
abbrev KSet (W : Wd) (n : Nat) (env : Env) (wr : List Str) (o i : Expr) (Φ : PF → Sto → Prop) (v : PV) (σ : Sto) : Prop := Ev W n env wr o σ (KSet2 W n env wr i v Φ)
theorem Ex1.setS {o i value : Expr} {pos' pos : Pos} {Φ : PF → Sto → Prop}
  (h : Ev W n env wr value σ (KSet W n env wr o i Φ))
  (hs : swapsWith value (some (o.Subscript i pos')) pos.line env = pure false := by with_unfolding_all rfl) : Ex1 W n env wr (.Assign [.Subscript o i pos'] value pos) σ Φ := fun A N K G s R S =>
 wpAny_Assign_Subscript (hs := hs) (bE (h A N K G s R S) fun v pv σ₁ G₁ s₁ g₁ S₁ r₁ h₁ => bE (h₁ A N K G₁ s₁ R S₁) fun a p σ₂ G₂ s₂ g₂ S₂ r₂ h₂ => bE (h₂ A N K G₂ s₂ R S₂) fun b q σ₃ G₃ s₃ g₃ S₃ r₃ h₃ =>
  bU (h₃ A N K G₃ s₃ a b v R S₃ (Rep.mono g₃ _ _ r₂) r₃ (Rep.mono (g₂.trans g₃) _ _ r₁)) fun _ σ₄ G₄ s₄ g₄ S₄ h₄ => ⟨G₄, .next, σ₄, ((g₁.trans g₂).trans g₃).trans g₄, S₄, rfl, h₄⟩)
def GetS (W : Wd) (n : Nat) (env : Env) (wr : List Str) (p q : PV) (σ : Sto) (Ψ : PV → Sto → Prop) : Prop :=
 ∀ A N K G s a b, Room A n → St W N K G env wr σ s → Rep W G p a → Rep W G q b → wpAny W.M A (getItem a b) (EPost W N K G env wr Ψ) NoE s
theorem GetS.list {x : Str} {c : Addr} {xs : List PV} {k : Nat} {p : PV} {Ψ : PV → Sto → Prop} (hx : σ.lookup x = some (.ol c xs)) (h1 : (k : Int) < 2 ^ 62) (hp : xs[k]? = some p) (h : Ψ p σ) :
  GetS W n env wr (.val (.ref c)) (.int (k : Int)) σ Ψ := fun A N K G s a b R S ra rb => by
 have := ra.val_inv; subst this; refine o1_1 rb.int_inv fun u zb => ?_; obtain rfl := zb
 obtain ⟨vs, m, hh, e, rs, o⟩ := S.ol hx
 refine o1_2 (rs.at hp) fun w e' r => ?_
 have hl : s.heap.IsList c vs := ⟨_, e, rfl, m, rfl⟩
 exact wpAny_getItem_list hl (by with_reducible exact Om.negLe (by decide)) (by omega) (by simpa using e') ⟨G, p, σ, PH.Le.refl G, S, r, h⟩
abbrev KAug5 (W : Wd) (n : Nat) (env : Env) (wr : List Str) (p q : PV) (Φ : PF → Sto → Prop) (σ : Sto) (new : PV) : Prop := SetS W n env wr p q new σ (Φ .next)
abbrev KAug4 (W : Wd) (n : Nat) (env : Env) (wr : List Str) (op : Operator) (p q old : PV) (Φ : PF → Sto → Prop) (v : PV) (σ : Sto) : Prop := IopP W n op old v (KAug5 W n env wr p q Φ σ)
abbrev KAug3 (W : Wd) (n : Nat) (env : Env) (wr : List Str) (op : Operator) (value : Expr) (p q : PV) (Φ : PF → Sto → Prop) (old : PV) (σ : Sto) : Prop := Ev W n env wr value σ (KAug4 W n env wr op p q old Φ)
abbrev KAug2 (W : Wd) (n : Nat) (env : Env) (wr : List Str) (op : Operator) (value : Expr) (p : PV) (Φ : PF → Sto → Prop) (q : PV) (σ : Sto) : Prop := GetS W n env wr p q σ (KAug3 W n env wr op value p q Φ)
abbrev KAug (W : Wd) (n : Nat) (env : Env) (wr : List Str) (op : Operator) (i value : Expr) (Φ : PF → Sto → Prop) (p : PV) (σ : Sto) : Prop := Ev W n env wr i σ (KAug2 W n env wr op value p Φ)
theorem Ex1.augS {o i value : Expr} {op : Operator} {tpos pos : Pos} {Φ : PF → Sto → Prop}
  (h : Ev W n env wr o σ (KAug W n env wr op i value Φ))
  (hs : ∀ ov iv new, augStore i ov iv new = (do holding [new, ov, iv] (setItem ov iv new); release [new, ov, iv] []; pure Flow.next) := by intro _ _ _; with_unfolding_all rfl) : Ex1 W n env wr (.AugAssign (.Subscript o i tpos) op value pos) σ Φ := fun A N K G s R S =>
 wpAny_AugAssign_Subscript_any (bE (h A N K G s R S) fun a p σ₁ G₁ s₁ g₁ S₁ r₁ h₁ => bE (h₁ A N K G₁ s₁ R S₁) fun b q σ₂ G₂ s₂ g₂ S₂ r₂ h₂ =>
  bE (h₂ A N K G₂ s₂ a b R S₂ (Rep.mono g₂ _ _ r₁) r₂) fun old po σ₃ G₃ s₃ g₃ S₃ r₃ h₃ => bE (h₃ A N K G₃ s₃ R S₃) fun v pv σ₄ G₄ s₄ g₄ S₄ r₄ h₄ =>
  bV S₄ (h₄ A _ G₄ s₄ old v R S₄.hp (Rep.mono g₄ _ _ r₃) r₄) fun new pn G₅ s₅ g₅ S₅ r₅ h₅ =>
  bU (h₅ A N K G₅ s₅ a b new R S₅ (Rep.mono (((g₂.trans g₃).trans g₄).trans g₅) _ _ r₁) (Rep.mono ((g₃.trans g₄).trans g₅) _ _ r₂) r₅) fun _ σ₆ G₆ s₆ g₆ S₆ h₆ =>
   ⟨G₆, .next, σ₆, ((((g₁.trans g₂).trans g₃).trans g₄).trans g₅).trans g₆, S₆, rfl, h₆⟩) hs
end Mine
end
section
open PySem PySem.W PyProof.Rows PySem.Calls
namespace Mine
variable {W : Wd} {n : Nat} {env : Env} {wr : List Str} {σ : Sto} {N : Addr → Prop} {K G : PH} {s : Shared}
theorem Ex1.whil {test : Expr} {body : List Stmt} {pos : Pos} {Φ : PF → Sto → Prop} (I : Nat → Sto → Prop)
  (turn : ∀ k σ, I k σ → Tst W n env wr test σ fun b σ₁ => if b then Ex W n env wr body σ₁ (Lp (fun σ₂ => ∃ m, m < k ∧ I m σ₂) Φ) else Φ .next σ₁)
  (k : Nat) (h : I k σ) : Ex1 W n env wr (.While test body [] pos) σ Φ := fun A N K G s R S => by
 refine wpAny_While (codeAny_whileLoop (fun k s => ∃ G' σ', G.Le G' ∧ St W N K G' env wr σ' s ∧ I k σ') (fun k s zz => o2_3 zz fun G' σ' g S hI => ?_) k (i2_3 G σ (PH.Le.refl G) S h))
 refine toE (bT (turn k σ' hI A N K G' s R S) fun b σ₁ G₁ s₁ g₁ S₁ h₁ => ?_)
 cases b with
 | true =>
  refine toE (bF (h₁ A N K G₁ s₁ R S₁) fun f q σ₂ G₂ s₂ g₂ S₂ r₂ h₂ => ?_)
  have gg := (g.trans g₁).trans g₂
  cases q with
  | next => obtain rfl := r₂; refine o1_2 h₂ fun m hm hI => ?_; clear h₂; exact (i1_2 m hm ⟨G₂, σ₂, gg, S₂, hI⟩)
  | cont => obtain rfl := r₂; refine o1_2 h₂ fun m hm hI => ?_; clear h₂; exact (i1_2 m hm ⟨G₂, σ₂, gg, S₂, hI⟩)
  | brk => obtain rfl := r₂; exact ⟨G₂, .next, σ₂, gg, S₂, rfl, h₂⟩
  | ret p => refine o1_2 r₂ fun v zb r => ?_; clear r₂; obtain rfl := zb; exact ⟨G₂, .ret p, σ₂, gg, S₂, (Exists.intro v ⟨rfl, r⟩), h₂⟩
 | false => exact wpAny_execs_nil ⟨G₁, .next, σ₁, g.trans g₁, S₁, rfl, h₁⟩
theorem Ex1.tr {body : List Stmt} {h₀ : ExceptHandler} {hs : List ExceptHandler} {pos : Pos} {Φ : PF → Sto → Prop} (h : Ex W n env wr body σ Φ) : Ex1 W n env wr (.Try body (h₀ :: hs) [] [] pos) σ Φ := fun A N K G s R S =>
 wpAny_Try_except (wpAny_mono (h A N K G s R S) (fun f s₁ h₁ => by
  cases f with
  | next => exact wpAny_execs_nil h₁
  | _ => exact h₁) fun _ _ x => x.elim)
abbrev KAsg (W : Wd) (n : Nat) (env : Env) (wr : List Str) (t : Expr) (Φ : PF → Sto → Prop) (p : PV) (σ : Sto) : Prop := Asg W n env wr t p σ (Φ .next)
theorem Ex1.asg {elts : List Expr} {k : Nat} {tpos : Pos} {value : Expr} {pos : Pos} {Φ : PF → Sto → Prop} (h : Ev W n env wr value σ (KAsg W n env wr (.Tuple elts k tpos) Φ))
  (hs : swapsWithSole [.Tuple elts k tpos] value pos.line env = pure false := by with_unfolding_all rfl) (hw : swappedStores [.Tuple elts k tpos] value env = pure none := by with_unfolding_all rfl) : Ex1 W n env wr (.Assign [.Tuple elts k tpos] value pos) σ Φ := fun A N K G s R S =>
 Assign_Tuple (hs := hs) (hw := hw) (bE (h A N K G s R S) fun v p σ₁ G₁ s₁ g₁ S₁ r₁ h₁ =>
  bU (h₁ A N K G₁ s₁ v R S₁ r₁) fun _ σ₂ G₂ s₂ g₂ S₂ h₂ => ⟨G₂, .next, σ₂, g₁.trans g₂, S₂, rfl, h₂⟩)
end Mine
end
section
open PySem PySem.W PyProof.Rows PySem.Calls
namespace Mine
open PySem.Builtin PySem.Builtin.Str
theorem negText : ∀ k ∈ List.range 20, (45 :: (PySem.Str.ofString (toString (((k + 1 : Nat)) : Int))).cps.toList) = (PySem.Str.ofString (toString (-((k + 1 : Nat) : Int)))).cps.toList := by decide +kernel
theorem percentInt_z (c : Percent) (h1 : c.alt = false) (h2 : c.type = 100 ∨ c.type = 105 ∨ c.type = 117) (h3 : c.prec = none) {n : Int} (hn : -20 ≤ n) {d : List Nat} (hd : d = (PySem.Str.ofString (toString ((n.natAbs : Nat) : Int))).cps.toList) :
  percentInt c (decide (n < 0)) d = (PySem.Str.ofString (toString n)).cps.toList := by
 subst hd
 by_cases h0 : 0 ≤ n
 ·rw [KPc.int_text c h1 h2 h3 h0, Int.natAbs_of_nonneg h0]
 ·have hneg : decide (n < 0) = true := decide_eq_true (by omega)
  have e : n = -(((n.natAbs - 1 + 1 : Nat)) : Int) := by omega
  have e2 : n.natAbs = n.natAbs - 1 + 1 := by omega
  have t := negText (n.natAbs - 1) (List.mem_range.mpr (by omega))
  rw [← e, ← e2] at t
  rw [← t, hneg]
  unfold percentInt
  rcases h2 with h2 | h2 | h2 <;> simp [h1, h2, h3]
theorem numLen : ∀ k ∈ List.range 40, (PySem.Str.ofString (toString ((k : Int) - 20))).length ≤ 3 := by decide +kernel
theorem after_intZ {M : Model} {A : Around} {E : Value → Shared → Prop} {s : Shared} {l : List Nat} {p : List Value} {r : List Nat}
  {f : Nat → List Value × Writer × List Nat → Sem (ForInStep (List Value × Writer × List Nat))} {Q : List Value × Writer × List Nat → Shared → Prop}
  {w : Writer} {T : PySem.Str} {N : Nat} {o : Option Value} {c : Percent} {n : Int} {d : List Nat} (g : KPc.Good w T N) (h1 : c.alt = false) (h2 : c.type = 100 ∨ c.type = 105 ∨ c.type = 117) (h3 : c.prec = none) (hn : -20 ≤ n) (hm : n ≤ 19)
  (hd : d = (PySem.Str.ofString (toString ((n.natAbs : Nat) : Int))).cps.toList) (ho : o = none) (h : ∀ w', KPc.Good w' (T ++ PySem.Str.ofString (toString n)) (N + 10) → wpAny M A (forIn l (p, w', r) f) Q E s) :
  wpAny M A (forIn l (p, w.add ⟨(percentInt c (decide (n < 0)) d).toArray⟩ o, r) f) Q E s := by
 rw [percentInt_z c h1 h2 h3 hn hd]
 refine KPc.after_str g ?_ (KPc.obj_none ho) h
 have := numLen (n + 20).toNat (List.mem_range.mpr (by omega))
 rw [show (((n + 20).toNat : Int) - 20) = n by omega] at this
 with_reducible exact Nat.le_trans (by assumption) (by decide)
local macro_rules | `(tactic| kpt_piece) => `(tactic| (refine after_intZ (by kpc_g) rfl (by kpc_kind) rfl (by with_reducible assumption) (by with_reducible assumption) rfl (by kpc_none) ?_; intro _ _))
theorem fmt1 {b : Addr} {t tx tm ty : Tok} {x y : PySem.Str} {m : Int} (h0 : -20 ≤ m) (h1 : m ≤ 19) (hx : x.length ≤ 5) (hy : y.length ≤ 5) :
  Meets («str.__mod__» ⟨[.str ⟨#[37,115,58,37,100,40,37,115,41]⟩ t, .ref b],[]⟩) (fun _ R s => IsTup s.heap b #[.str x tx, .int m tm, .str y ty] ∧ ∀ t' k, R (.ok (.ret (.str ((((x ++ ⟨#[58]⟩) ++ PySem.Str.ofString (toString m)) ++ ⟨#[40]⟩) ++ y ++ ⟨#[41]⟩) t'))) {s with toks := k}) := by
 have hN : m.natAbs.log2 < 1920 := by
  have : m.natAbs ≤ 20 := by omega
  exact Nat.lt_of_le_of_lt (Nat.log2_le_self _) (by with_reducible exact Nat.lt_of_le_of_lt (by assumption) (by decide))
 kpt_run
end Mine
end
section
open PySem PySem.W PyProof.Rows PySem.Calls
namespace Mine
variable {W : Wd} {n : Nat} {env : Env} {wr : List Str} {σ : Sto} {N : Addr → Prop} {K G : PH} {s : Shared} {A : Around}
def EqT (W : Wd) (A : Around) (s : Shared) (x y : Value) : Prop := ∀ (E : Value → Shared → Prop) (Q : Bool → Shared → Prop), Q true s → wpAny W.M A (eqBool x y) Q E s
def RcT (W : Wd) (A : Around) (s : Shared) (x y : Value) : Prop := ∀ (E : Value → Shared → Prop) (Q : Value → Shared → Prop), Q (.bool true) s → wpAny W.M A (richCompare .Eq x y) Q E s
def RnT (W : Wd) (A : Around) (s : Shared) (x y : Value) : Prop := ∀ (E : Value → Shared → Prop) (Q : Value → Shared → Prop), Q (.bool false) s → wpAny W.M A (richCompare .NotEq x y) Q E s
theorem EqT.refl (v : Value) : EqT W A s v v := fun E Q h => SeqAt.EqAt.same v W.prog W.w E Q h
theorem EqT.refs {a b : Addr} (h : RcT W A s (.ref a) (.ref b)) : EqT W A s (.ref a) (.ref b) := fun E Q q => by
 by_cases hab : a = b
 ·subst hab; exact EqT.refl _ E Q q
 ·unfold eqBool
  refine wpAny_holding ?_
  refine wpAny_ite_split (fun hc => absurd (by have := eq_of_beq hc; injection this) hab) (fun _ => ?_)
  exact wpAny_bind (h E _ (wpAny_truthy_bool q))
theorem samePairs_true {nm : String} {a b : Addr} {ka kb : List (Str × Value)} {E : Value → Shared → Prop} {Q : Bool → Shared → Prop} (ha : (a == sysModules) = false) (hb : (b == sysModules) = false)
  (da : s.heap.DictOf W.knd a ka) (db : s.heap.DictOf W.knd b kb) (hl : ka.length = kb.length) (hits : ∀ (i : Nat) (k : Str) (v : Value), ka[i]? = some (k, v) → ∃ y, valueAt kb k = some y ∧ EqT W A s v y) (h : Q true s) :
  wpAny W.M A (Builtin.Dict.samePairs nm a b) Q E s := by
 refine o3_6 da fun oa es ep hoa _ hda hka hpa _ => ?_; clear da
 refine o3_6 db fun ob es' ep' hob _ hdb hkb hpb _ => ?_; clear db
 have hla : ka.length = es.size := by rw [← hpa.length]; exact Array.length_toList
 have hlb : kb.length = es'.size := by rw [← hpb.length]; exact Array.length_toList
 have hfind : ∀ k, findBy W.knd.is es' k = valueAt kb k := fun k => by
  rw [← hpb.find k]
  clear hlb hpb hkb hdb hob
  obtain ⟨l⟩ := es'
  simp [findBy]
 unfold Builtin.Dict.samePairs Builtin.Dict.showsAll
 rw [if_neg (show ¬ (a == sysModules) = true by rw [ha]; exact Bool.false_ne_true), if_neg (show ¬ (b == sysModules) = true by rw [hb]; exact Bool.false_ne_true)]
 refine wpAny_bind (wpAny_pure (wpAny_bind (wpAny_pure ?_)))
 refine wpAny_bind (wpAny_dictEntries hoa hda ?_)
 dsimp only
 refine wpAny_bind (wpAny_dictEntries hob hdb ?_)
 rw [if_neg (by rw [← hla, ← hlb, hl]; simp)]
 refine wpAny_bind (wpAny_dictEpoch hoa hda ?_)
 refine wpAny_bind ?_
 rw [Std.Legacy.Range.forIn_eq_forIn_range']
 simp only [Std.Legacy.Range.size, Nat.sub_zero, Nat.add_sub_cancel, Nat.div_one]
 refine wpAny_forIn_list _ (fun rest q s' => s' = s ∧ q = (none, ()) ∧ ∀ i ∈ rest, i < es.size) _ ?_ ?_ _ _ ⟨rfl, rfl, fun i hi => by have := List.mem_range'_1.mp hi; omega⟩
 ·rintro x rest q s' ⟨rfl, rfl, hi⟩
  have hlt : x < es.size := hi x (by simp)
  refine wpAny_bind (wpAny_dictEntries hoa hda ?_)
  rw [Array.getElem?_eq_getElem hlt]
  have hlt' : x < ka.length := by rw [hla]; exact hlt
  obtain ⟨k, v, hkv⟩ : ∃ k v, ka[x] = (k, v) := (i2_1 _ _ rfl)
  refine o0_2 (hpa.get? (i := x) (e := es[x]) (k := k) (v := v) (by rw [Array.getElem?_toList]; exact Array.getElem?_eq_getElem hlt) (by rw [List.getElem?_eq_getElem hlt', hkv])) fun hkey hval => ?_
  refine o1_2 (hka es[x] (Array.getElem_mem hlt)) fun k' hk' hh => ?_
  have ekk : k' = k := W.knd.inj _ _ _ hk' hkey
  rw [ekk] at hh
  refine o1_2 (hits x k v (by rw [List.getElem?_eq_getElem hlt', hkv])) fun y hy he => ?_
  show wpAny _ _ (holding [es[x].key, es[x].val] _ >>= _) _ _ _
  rw [hh]
  refine wpAny_bind (wpAny_holding (wpAny_bind (wpAny_dictFind_of hkey hob hdb hkb ?_)))
  cases hj : es'.findIdx? fun e => W.knd.is k e.key with
  | none =>
   have hn : valueAt kb k = none := by rw [← hfind k, findBy_of_findIdx?, hj]
   rw [hn] at hy; cases hy
  | some j =>
   refine o1_2 (Array.findIdx?_eq_some_iff_getElem.mp hj) fun hjlt _ _ => ?_
   have hv' : valueAt kb k = some es'[j].val := by
    rw [← hfind k, findBy_of_findIdx?, hj]
    simp [Array.getElem?_eq_getElem hjlt]
   refine wpAny_bind (wpAny_dictEntries hob hdb ?_)
   rw [Array.getElem?_eq_getElem hjlt]
   have ey : es'[j].val = y := Option.some.inj (hv'.symm.trans hy)
   rw [← ey, ← hval] at he
   refine wpAny_holding (he _ _ ?_)
   show wpAny _ _ (if (!true) = true then _ else _) _ _ _
   rw [if_neg (by decide)]
   refine wpAny_bind (wpAny_dictEpoch hoa hda ?_)
   rw [if_neg (by simp)]
   exact wpAny_pure ⟨rfl, rfl, fun i hi' => hi i (List.mem_cons_of_mem _ hi')⟩
 ·rintro q s' ⟨rfl, rfl, _⟩
  exact wpAny_pure h
theorem dicts_eq {a b : Addr} {ka kb : List (Str × Value)} (ha : (a == sysModules) = false) (hb : (b == sysModules) = false)
  (da : s.heap.DictOf W.knd a ka) (db : s.heap.DictOf W.knd b kb) (hu : A.units < cLine) (hl : ka.length = kb.length) (hits : ∀ (i : Nat) (k : Str) (v : Value), ka[i]? = some (k, v) → ∃ y, valueAt kb k = some y ∧ EqT W A.in1 s v y) : RcT W A s (.ref a) (.ref b) ∧ RnT W A s (.ref a) (.ref b) := by
 constructor
 ·intro E Q h
  refine wpAny_richCompare_same_room (op := .Eq) da.typeIs db.typeIs PySem.F.slot_dict_eq (wpAny_call_entry PySem.F.slot_dict_eq da.typeIs PySem.F.entry_dict_eq ?_ (PySem.F.args_dict_eq_2 _ _)) hu
  show wpAny _ _ (Builtin.Dict.dictSlotArgs "__eq__" ⟨[.ref a, .ref b], []⟩ >>= _) _ _ s
  refine wpAny_bind ?_
  unfold Builtin.Dict.dictSlotArgs
  refine wpAny_bind (wpAny_notOrdered_dict da.typeIs ?_)
  show wpAny _ _ (pure (Value.ref a, Value.ref b)) _ _ s
  refine wpAny_pure ?_
  refine wpAny_bind (wpAny_isInstance (T := "dict") db.typeIs PySem.F.sub_dict_dict ?_)
  simp only [Bool.not_true, Bool.false_eq_true, if_false]
  refine wpAny_bind (wpAny_pure (wpAny_bind (wpAny_pure ?_)))
  refine wpAny_bind (samePairs_true ha hb da db hl hits ?_)
  exact wpAny_pure (i1_3 _ rfl (fun x => (nomatch x)) h)
 ·intro E Q h
  refine wpAny_richCompare_same_room (op := .NotEq) da.typeIs db.typeIs PySem.F.slot_dict_ne (wpAny_call_entry PySem.F.slot_dict_ne da.typeIs PySem.F.entry_dict_ne ?_ (PySem.F.args_dict_ne_2 _ _)) hu
  show wpAny _ _ (Builtin.Dict.dictSlotArgs "__ne__" ⟨[.ref a, .ref b], []⟩ >>= _) _ _ s
  refine wpAny_bind ?_
  unfold Builtin.Dict.dictSlotArgs
  refine wpAny_bind (wpAny_notOrdered_dict da.typeIs ?_)
  show wpAny _ _ (pure (Value.ref a, Value.ref b)) _ _ s
  refine wpAny_pure ?_
  refine wpAny_bind (wpAny_isInstance (T := "dict") db.typeIs PySem.F.sub_dict_dict ?_)
  simp only [Bool.not_true, Bool.false_eq_true, if_false]
  refine wpAny_bind (wpAny_pure (wpAny_bind (wpAny_pure ?_)))
  refine wpAny_bind (samePairs_true ha hb da db hl hits ?_)
  exact wpAny_pure (i1_3 _ rfl (fun x => (nomatch x)) h)
end Mine
end
section
open PySem PySem.W PyProof.Rows PySem.Calls
namespace Mine
variable {W : Wd} {n : Nat} {env : Env} {wr : List Str} {σ : Sto} {N : Addr → Prop} {K G : PH} {s : Shared} {A : Around}
theorem zip_mem {α : Type} {P : α → α → Prop} {xs ys : List α} (h : ∀ (j : Nat) (x y : α), xs[j]? = some x → ys[j]? = some y → P x y) : ∀ p ∈ xs.zip ys, P p.1 p.2 := fun p hp => by
 refine o1_1 (List.getElem?_of_mem hp) fun j hj => ?_
 rw [List.getElem?_zip_eq_some] at hj
 exact h j p.1 p.2 hj.1 hj.2
theorem tups_eq {a b : Addr} {xs ys : Array Value} (ha : IsTup s.heap a xs) (hb : IsTup s.heap b ys) (hl : xs.size = ys.size) (hu : A.units < cLine) (he : ∀ (j : Nat) (x y : Value), xs.toList[j]? = some x → ys.toList[j]? = some y → EqT W A.in1 s x y) :
  RcT W A s (.ref a) (.ref b) := fun E Q h => by
 refine wpAny_richCompare_same_room (op := .Eq) ha.typeIs hb.typeIs PySem.F.slot_tuple_eq (wpAny_call_entry PySem.F.slot_tuple_eq ha.typeIs PySem.F.entry_tuple_eq ?_ (PySem.F.args_tuple_eq_2 _ _)) hu
 show wpAny _ _ (isInstance (.ref b) (.type "tuple") >>= fun r => _) _ _ s
 refine wpAny_bind (wpAny_isInstance (T := "tuple") hb.typeIs KPt.sub_tt ?_)
 show wpAny _ _ (Builtin.Tuple.tupleItemsOf (.ref a) >>= _) _ _ s
 refine wpAny_bind (tupleItemsOf_ ha ?_)
 refine wpAny_bind (tupleItemsOf_ hb ?_)
 refine wpAny_bind ?_
 refine wpAny_forIn_list _ (fun rest q s' => s' = s ∧ q = (none, ()) ∧ ∀ p ∈ rest, EqT W A.in1 s p.1 p.2) _ ?_ ?_ _ _ ⟨rfl, rfl, zip_mem he⟩
 ·rintro ⟨x, y⟩ rest q s' ⟨rfl, rfl, hp⟩
  refine wpAny_bind (hp (x, y) (by simp) _ _ ?_)
  exact wpAny_pure ⟨rfl, rfl, fun p hp' => hp p (List.mem_cons_of_mem _ hp')⟩
 ·rintro q s' ⟨rfl, rfl, _⟩
  refine wpAny_pure (i1_3 _ rfl (fun q => (nomatch q)) ?_)
  show Q (.bool (xs.size == ys.size)) _
  rw [hl]; simpa using h
theorem EqT.i {a : Int} {t u : Tok} : EqT W A s (.int a t) (.int a u) := fun E Q h => SeqAt.EqAt.int_int a t a u W.prog W.w E Q (by simpa using h)
theorem EqT.s_ {a : Str} {t u : Tok} : EqT W A s (.str a t) (.str a u) := fun E Q h => SeqAt.EqAt.str_str a t a u W.prog W.w E Q (by simpa using h)
theorem EqT.by_ {a : Array UInt8} {t u : Tok} : EqT W A s (.bytes a t) (.bytes a u) := fun E Q h => by
 unfold eqBool
 refine wpAny_holding ?_
 refine wpAny_ite_split (fun hab => ?_) (fun hab => ?_)
 ·exact wpAny_bind (wpAny_rule (wpAny_pure h))
 ·exact wpAny_bind (eq_bytes (wpAny_truthy_bool (by simpa using h)))
theorem EqA.by_ {a : Array UInt8} {t u : Tok} : SeqAt.EqAt A s (.bytes a t) (.bytes a u) true := fun prog w E Q h => by
 unfold eqBool
 refine wpAny_holding ?_
 refine wpAny_ite_split (fun hab => ?_) (fun hab => ?_)
 ·exact wpAny_bind (wpAny_rule (wpAny_pure h))
 ·exact wpAny_bind (eq_bytes (wpAny_truthy_bool (by simpa using h)))
theorem allT (k : Nat) : ((List.range k).all fun _ => true) = true := by rw [List.all_eq_true]; intro _ _; rfl
inductive Flat : Nat → PV → Prop
 | int {d a} : Flat d (.int a)
 | str {d a} : Flat d (.str a)
 | bytes {d a} : Flat d (.bytes a)
 | list {d ps} (h : ∀ q ∈ ps, Flat d q) : Flat (d + 1) (.list ps)
theorem Rep.isList {ps : List PV} {v : Value} (H : Hp W N G s) (r : Rep W G (.list ps) v) : ∃ a vs, v = .ref a ∧ s.heap.IsList a vs ∧ Reps W G ps vs.toList ∧ vs.size = ps.length := by
 obtain ⟨a, o, vs, m, rfl, g, hc, hd, rs⟩ := r.list_inv
 exact (i2_4 a vs rfl ⟨o, H.gin _ _ g, hc, m, hd⟩ rs (by simpa using rs.length))
theorem eqA (H : Hp W N G s) {d : Nat} {p : PV} (hf : Flat d p) : ∀ {v v' : Value} {A : Around}, A.units + d < cLine → Rep W G p v → Rep W G p v' → SeqAt.EqAt A s v v' true := by
 induction hf with
 | @int d a =>
  intro v v' A _ r r'
  refine o1_1 r.int_inv fun t zb => ?_; obtain rfl := zb; refine o1_1 r'.int_inv fun u zb => ?_; obtain rfl := zb
  have := SeqAt.EqAt.int_int (A := A) (s := s) a t a u; rwa [beq_self_eq_true] at this
 | @str d a =>
  intro v v' A _ r r'
  refine o1_1 r.str_inv fun t zb => ?_; obtain rfl := zb; refine o1_1 r'.str_inv fun u zb => ?_; obtain rfl := zb
  have := SeqAt.EqAt.str_str (A := A) (s := s) a t a u; rwa [beq_self_eq_true] at this
 | bytes =>
  intro v v' A _ r r'
  refine o1_1 r.bytes_inv fun t zb => ?_; obtain rfl := zb; refine o1_1 r'.bytes_inv fun u zb => ?_; obtain rfl := zb
  exact EqA.by_
 | @list d ps h ih =>
  intro v v' A hu r r'
  refine o2_4 (r.isList H) fun a vs zc hl rs hz => ?_; obtain rfl := zc; refine o2_4 (r'.isList H) fun b us zc hl' rs' hz' => ?_; obtain rfl := zc
  by_cases hab : a = b
  ·subst hab; exact SeqAt.EqAt.same _
  ·refine SeqAt.EqAt.of_refs hab ?_
   have key := SeqAt.RcAt.lists (A := A) (e := fun _ => true) hl hl' (by rw [hz, hz']) (Nat.lt_of_le_of_lt (Nat.le_add_right _ _) hu) fun j h1 h2 => ?_
   ·rwa [allT] at key
   ·refine o1_2 (rs.get (i := j) (v := vs[j]) (by simp [h1])) fun p hp rp => ?_
    refine o1_2 (rs'.get (i := j) (v := us[j]) (by simp [h2])) fun q hq rq => ?_
    rw [hp] at hq; cases hq
    exact ih p (List.mem_of_getElem? hp) (A := A.in1) (Nat.lt_of_le_of_lt (Nat.le_of_eq (Nat.add_right_comm A.units 1 d)) hu) rp rq
theorem Room.u {A : Around} (R : Room A n) {d : Nat} (h : d ≤ 800) : A.units + d < cLine := by have := R.units; have : cLine = 9900 := rfl; omega
theorem CmpP.neList {ps : List PV} {Ψ : PV → Prop} (hf : Flat 4 (.list ps)) (h : Ψ (.bool false)) : CmpP W n .NotEq (.list ps) (.list ps) Ψ := fun A N G s x y R H rx ry => by
 refine o2_4 (rx.isList H) fun a vs zc hl rs hz => ?_; obtain rfl := zc; refine o2_4 (ry.isList H) fun b us zc hl' rs' hz' => ?_; obtain rfl := zc
 refine SeqAt.RcNeAt.lists (A := A) (e := fun _ => true) hl hl' (by rw [hz, hz']) (by have := R.u (d := 0) (by with_reducible exact Nat.le_add_left _ _); assumption) (fun j h1 h2 => ?_) W.prog W.w _ _ (by rw [allT]; exact VPost.same H Rep.b h)
 refine o1_2 (rs.get (i := j) (v := vs[j]) (by simp [h1])) fun p hp rp => ?_
 refine o1_2 (rs'.get (i := j) (v := us[j]) (by simp [h2])) fun q hq rq => ?_
 rw [hp] at hq; cases hq
 cases hf with | list hf => exact eqA H (hf p (List.mem_of_getElem? hp)) (A := A.in1) (by have := R.u (d := 4) (by with_reducible exact Nat.le_add_left _ _); show A.units + 1 + 3 < cLine; assumption) rp rq
theorem CmpP.eqList {ps : List PV} {Ψ : PV → Prop} (hf : Flat 4 (.list ps)) (h : Ψ (.bool true)) : CmpP W n .Eq (.list ps) (.list ps) Ψ := fun A N G s x y R H rx ry => by
 refine o2_4 (rx.isList H) fun a vs zc hl rs hz => ?_; obtain rfl := zc; refine o2_4 (ry.isList H) fun b us zc hl' rs' hz' => ?_; obtain rfl := zc
 refine SeqAt.RcAt.lists (A := A) (e := fun _ => true) hl hl' (by rw [hz, hz']) (by have := R.u (d := 0) (by with_reducible exact Nat.le_add_left _ _); assumption) (fun j h1 h2 => ?_) W.prog W.w _ _ (by rw [allT]; exact VPost.same H Rep.b h)
 refine o1_2 (rs.get (i := j) (v := vs[j]) (by simp [h1])) fun p hp rp => ?_
 refine o1_2 (rs'.get (i := j) (v := us[j]) (by simp [h2])) fun q hq rq => ?_
 rw [hp] at hq; cases hq
 cases hf with | list hf => exact eqA H (hf p (List.mem_of_getElem? hp)) (A := A.in1) (by have := R.u (d := 4) (by with_reducible exact Nat.le_add_left _ _); show A.units + 1 + 3 < cLine; assumption) rp rq
theorem CmpP.eqLen {ps qs : List PV} {Ψ : PV → Prop} (hl : ps.length ≠ qs.length) (h : Ψ (.bool false)) : CmpP W n .Eq (.list ps) (.list qs) Ψ := fun A N G s x y R H rx ry => by
 refine o2_4 (rx.isList H) fun a vs zc h1 rs hz => ?_; obtain rfl := zc; refine o2_4 (ry.isList H) fun b us zc h2 rs' hz' => ?_; obtain rfl := zc
 exact SeqAt.RcAt.lists_lengths (A := A) h1 h2 (by rw [hz, hz']; simpa using hl) (by have := R.u (d := 0) (by with_reducible exact Nat.le_add_left _ _); assumption) W.prog W.w _ _ (VPost.same H Rep.b h)
theorem Rep.isTup {ps : List PV} {v : Value} (H : Hp W N G s) (r : Rep W G (.tuple ps) v) : ∃ a vs, v = .ref a ∧ IsTup s.heap a vs ∧ Reps W G ps vs.toList ∧ vs.size = ps.length := by
 obtain ⟨a, o, vs, m, rfl, g, hc, hd, rs⟩ := r.tup_inv
 exact (i2_4 a vs rfl ⟨o, H.gin _ _ g, hc, m, hd⟩ rs (by simpa using rs.length))
inductive Tree : Nat → PV → Prop
 | int {d a} : Tree d (.int a)
 | str {d a} : Tree d (.str a)
 | tuple {d ps} (h : ∀ q ∈ ps, Tree d q) : Tree (d + 1) (.tuple ps)
 | dict {d es} (h : ∀ e ∈ es, Tree d e.2) : Tree (d + 1) (.dict es)
theorem RepKV.same {es : List (Str × PV)} {ka kb : List (Str × Value)} (ra : RepKV W G es ka) (rb : RepKV W G es kb) (hn : (kb.map (·.1)).Nodup) {i : Nat} {k : Str} {v : Value} (hv : ka[i]? = some (k, v)) :
  ∃ p y, es[i]? = some (k, p) ∧ Rep W G p v ∧ valueAt kb k = some y ∧ Rep W G p y := by
 refine o1_2 (ra.get hv) fun p hp rp => ?_
 have hlt : i < kb.length := by rw [rb.length]; exact (List.getElem?_eq_some_iff.mp hp).1
 refine o1_2 (rb.get (i := i) (k := kb[i].1) (v := kb[i].2) (by rw [List.getElem?_eq_getElem hlt])) fun q hq rq => ?_
 rw [hp] at hq
 have e1 : k = kb[i].1 := by injection hq with hq; injection hq
 have e2 : p = q := by injection hq with hq; injection hq
 subst e2
 exact (i2_4 p (kb[i].2) hp rp (valueAt_of_get hn (i := i) (by rw [List.getElem?_eq_getElem hlt, e1])) rq)
theorem eqT (H : Hp W N G s) {d : Nat} {p : PV} (hf : Tree d p) : ∀ {v v' : Value} {A : Around}, A.units + d < cLine → Rep W G p v → Rep W G p v' → EqT W A s v v' := by
 induction hf with
 | int =>
  intro v v' A _ r r'
  refine o1_1 r.int_inv fun t zb => ?_; obtain rfl := zb; refine o1_1 r'.int_inv fun u zb => ?_; obtain rfl := zb
  exact EqT.i
 | str =>
  intro v v' A _ r r'
  refine o1_1 r.str_inv fun t zb => ?_; obtain rfl := zb; refine o1_1 r'.str_inv fun u zb => ?_; obtain rfl := zb
  exact EqT.s_
 | @tuple d ps h ih =>
  intro v v' A hu r r'
  refine o2_4 (r.isTup H) fun a vs zc hl rs hz => ?_; obtain rfl := zc; refine o2_4 (r'.isTup H) fun b us zc hl' rs' hz' => ?_; obtain rfl := zc
  refine EqT.refs (tups_eq hl hl' (by rw [hz, hz']) (Nat.lt_of_le_of_lt (Nat.le_add_right _ _) hu) fun j x y hx hy => ?_)
  refine o1_2 (rs.get hx) fun p hp rp => ?_
  refine o1_2 (rs'.get hy) fun q hq rq => ?_
  rw [hp] at hq; cases hq
  exact ih p (List.mem_of_getElem? hp) (A := A.in1) (Nat.lt_of_le_of_lt (Nat.le_of_eq (Nat.add_right_comm A.units 1 d)) hu) rp rq
 | @dict d es h ih =>
  intro v v' A hu r r'
  obtain ⟨a, o, ka, rfl, g, hd, hm, rs⟩ := r.dict_inv; obtain ⟨b, o', kb, rfl, g', hd', hm', rs'⟩ := r'.dict_inv
  have hn : (kb.map (·.1)).Nodup := o2_5 hd' fun _ _ _ _ _ _ n => n
  refine EqT.refs (dicts_eq hm hm' (dictOf_at (H.gin _ _ g) hd) (dictOf_at (H.gin _ _ g') hd') (Nat.lt_of_le_of_lt (Nat.le_add_right _ _) hu) (by rw [rs.length, rs'.length]) fun i k v hv => ?_).1
  refine o2_4 (rs.same rs' hn hv) fun p y hp rp hy ry => ?_
  exact (i1_2 y hy (ih (k, p) (List.mem_of_getElem? hp) (A := A.in1) (Nat.lt_of_le_of_lt (Nat.le_of_eq (Nat.add_right_comm A.units 1 d)) hu) rp ry))
theorem CmpP.neDict {es : List (Str × PV)} {Ψ : PV → Prop} (hf : Tree 6 (.dict es)) (h : Ψ (.bool false)) : CmpP W n .NotEq (.dict es) (.dict es) Ψ := fun A N G s x y R H rx ry => by
 obtain ⟨a, o, ka, rfl, g, hd, hm, rs⟩ := rx.dict_inv; obtain ⟨b, o', kb, rfl, g', hd', hm', rs'⟩ := ry.dict_inv
 have hn : (kb.map (·.1)).Nodup := o2_5 hd' fun _ _ _ _ _ _ n => n
 refine (dicts_eq (A := A) hm hm' (dictOf_at (H.gin _ _ g) hd) (dictOf_at (H.gin _ _ g') hd') (by have := R.u (d := 0) (by with_reducible exact Nat.le_add_left _ _); assumption) (by rw [rs.length, rs'.length]) fun i k v hv => ?_).2 _ _ (VPost.same H Rep.b h)
 refine o2_4 (rs.same rs' hn hv) fun p y hp rp hy ry => ?_
 cases hf with | dict hf => exact (i1_2 y hy (eqT H (hf (k, p) (List.mem_of_getElem? hp)) (A := A.in1) (by have := R.u (d := 6) (by with_reducible exact Nat.le_add_left _ _); show A.units + 1 + 5 < cLine; assumption) rp ry))
theorem CmpP.eqPair {a b : Str} {i j : Int} {Ψ : PV → Prop} (h : Ψ (.bool (a == b && i == j))) : CmpP W n .Eq (.tuple [.str a, .int i]) (.tuple [.str b, .int j]) Ψ := fun A N G s x y R H rx ry => by
 refine o2_4 (rx.isTup H) fun l vs zc hl rs hz => ?_; obtain rfl := zc; refine o2_4 (ry.isTup H) fun m us zc hl' rs' hz' => ?_; obtain rfl := zc
 refine o2_3 rs.inv2 fun v1 v2 e r1 r2 => ?_; refine o2_3 rs'.inv2 fun u1 u2 e' r1' r2' => ?_
 refine o1_1 r1.str_inv fun t1 zb => ?_; obtain rfl := zb; refine o1_1 r2.int_inv fun t2 zb => ?_; obtain rfl := zb; refine o1_1 r1'.str_inv fun t3 zb => ?_; obtain rfl := zb; refine o1_1 r2'.int_inv fun t4 zb => ?_; obtain rfl := zb
 have e2 : vs = #[.str a t1, .int i t2] := Array.toList_inj.mp (by rw [e])
 have e3 : us = #[.str b t3, .int j t4] := Array.toList_inj.mp (by rw [e'])
 subst e2 e3
 refine SeqAt.eq_tupleAt (e := fun k => if k = 0 then a == b else i == j) hl hl' (by have := R.u (d := 0) (by with_reducible exact Nat.le_add_left _ _); assumption) (fun k h1 h2 => ?_) (VPost.same H Rep.b (by
  revert h; generalize (a == b) = x; generalize (i == j) = y; intro h
  cases x <;> cases y <;> exact h))
 match k, h1 with
 | 0, _ => exact SeqAt.EqAt.str_str a t1 b t3
 | 1, _ => exact SeqAt.EqAt.int_int i t2 j t4
end Mine
end
section
open PySem PySem.W PyProof.Rows PySem.Calls
namespace Mine
variable {W : Wd} {n : Nat} {env : Env} {wr : List Str} {σ : Sto} {N : Addr → Prop} {K G : PH} {s : Shared} {A : Around}
def fmtOut (x y : Str) (m : Int) : Str := (((x ++ ⟨#[58]⟩) ++ Str.ofString (toString m)) ++ ⟨#[40]⟩) ++ y ++ ⟨#[41]⟩
theorem BinP.fmt {f x y : Str} {m : Int} {Ψ : PV → Prop} (hf : f = ⟨#[37,115,58,37,100,40,37,115,41]⟩) (h0 : -20 ≤ m) (h1 : m ≤ 19) (hx : x.length ≤ 5) (hy : y.length ≤ 5) (h : Ψ (.str (fmtOut x y m))) :
  BinP W n .Mod (.str f) (.tuple [.str x, .int m, .str y]) Ψ := fun A N G s a b R H ra rb => by
 subst hf
 refine o1_1 ra.str_inv fun t zb => ?_; obtain rfl := zb
 refine o2_4 (rb.isTup H) fun l vs zc hl rs hz => ?_; obtain rfl := zc
 refine o3_4 rs.inv3 fun v1 v2 v3 e r1 r2 r3 => ?_
 refine o1_1 r1.str_inv fun t1 zb => ?_; obtain rfl := zb; refine o1_1 r2.int_inv fun t2 zb => ?_; obtain rfl := zb; refine o1_1 r3.str_inv fun t3 zb => ?_; obtain rfl := zb
 have e2 : vs = #[.str x t1, .int m t2, .str y t3] := Array.toList_inj.mp (by rw [e])
 subst e2
 exact KPt.bin_left (T := "str") (U := "tuple") (op := .Mod) (by decide) (typeIs_str s _ t) hl.typeIs F.fills_str_mod KPt.fills_tuple F.slot_str_mod
  (call_meets F.slot_str_mod (typeIs_str s _ t) F.entry_str_mod (F.args_str_mod_2 _ _) (fmt1 h0 h1 hx hy) ⟨hl, fun t' k => ⟨(fun e => nomatch e), VPost.tok H Rep.st h⟩⟩)
theorem sliceTo {M : Model} {E : Value → Shared → Prop} {sl : Addr} {u : Tok} {Q : Int × Int × Nat → Shared → Prop} (hs : s.heap.IsSliceOf sl .none (.int 2 u) .none) (h : Q ((0 : Int), 1, 2) s) :
  wpAny W.M A (Builtin.Slice.sliceApplied (.ref sl) (pure (3 : Int))) Q E s := by
 refine o1_3 (id hs) fun os hos hcs hds => ?_
 unfold Builtin.Slice.sliceApplied Builtin.Slice.sliceFields
 refine wpAny_bind (wpAny_bind (wpAny_field hos hds (x := .none) rfl (wpAny_bind (wpAny_field hos hds (x := .int 2 u) rfl (wpAny_bind (wpAny_field hos hds (x := .none) rfl (wpAny_pure ?_)))))))
 refine wpAny_bind (slicePart_none ?_)
 show wpAny _ _ (if ((1 : Int) == 0) = true then _ else _) _ _ s
 rw [if_neg (by decide)]
 refine wpAny_bind (slicePart_none (wpAny_bind (slicePart_int (wpAny_bind (wpAny_pure ?_)))))
 exact wpAny_pure h
theorem SubP.tup2 {v i : Expr} {p q r : PV} {Ψ : PV → Prop} (h : Ψ (.tuple [p, q])) : SubP W n v i (.tuple [p, q, r]) (.obj "slice" [.none, .int 2, .none]) Ψ := fun A N G s a b R H ra rb => by
 refine o2_4 (ra.isTup H) fun l vs zc hl rs hz => ?_; obtain rfl := zc
 refine o3_4 (slice_inv (lo := none) (hi := some 2) rb) fun sl vl vh zd rl rh gs => ?_; obtain rfl := zd
 have := rl.none_inv; subst this
 refine o1_1 (Rep.int_inv rh) fun u zb => ?_; obtain rfl := zb
 refine o3_4 rs.inv3 fun a1 a2 a3 e r1 r2 r3 => ?_
 have e2 : vs = #[a1, a2, a3] := Array.toList_inj.mp (by rw [e])
 subst e2
 have hs : s.heap.IsSliceOf sl .none (.int 2 u) .none := ⟨_, H.gin _ _ gs, rfl, rfl⟩
 refine subTail hl.typeIs slot_tuple_getitem.lookup ?_
 unfold getItem
 try with_reducible refine wpAny_holding ?_
 first | refine wpAny_bind (wpAny_pure ?_) | skip
 refine wpAny_bind (wpAny_sequenceKey hl.typeIs (by decide) ?_)
 refine wpAny_bind (wpAny_callSpecial?_slot (name := Str.ofString "__getitem__") hl.typeIs slot_tuple_getitem
  (wpAny_call_entry slot_tuple_getitem hl.typeIs entry_tuple_getitem ?_ (args_tuple_getitem _ _)))
 show wpAny _ _ (Builtin.Tuple.tupleItemsOf (.ref l) >>= _) _ _ s
 refine wpAny_bind (tupleItemsOf_ hl ?_)
 refine wpAny_bind (wpAny_typeOf (s := s) (v := .ref sl) (T := "slice") ⟨_, H.gin _ _ gs, rfl⟩ ?_)
 rw [if_pos (by decide)]
 refine wpAny_bind (sliceTo (M := W.M) hs ?_)
 show wpAny _ _ (if ((0 : Int) == 0 && (1 : Int) == 1 && 2 == 3) = true then _ else _) _ _ s
 rw [if_neg (by decide)]
 refine o0_2 (H.push (o := { cls := .type "tuple", data := .seq #[a1, a2] }) rfl) fun H' g' => ?_
 have fin : VPost W N G s Ψ (.ref s.heap.objs.size) { s with heap := s.heap.push { cls := .type "tuple", data := .seq #[a1, a2] } } :=
  ⟨_, _, g', H', HLe.push _ _ _, Rep.newTuple (vs := [a1, a2]) rfl (PH.add_self ..) (Reps.mono g' _ _ (Reps.cons r1 (Reps.cons r2 Reps.nil))), h⟩
 have hsz : sizeOk (.seq #[a1, a2]) := by show 2 ≤ sizeLine; decide
 first
  | exact wpAny_bind (m := Builtin.Tuple.tupleExact _) (wpAny_newObj_type (wpAny_pure (i1_2 _ rfl (wpAny_pure fin))) hsz)
  | exact wpAny_bind (m := Builtin.Tuple.tupleExact _) (wpAny_newObj_type (wpAny_bind (wpAny_pure (wpAny_pure ⟨_, rfl, wpAny_pure fin⟩))) hsz)
  | exact wpAny_bind (wpAny_bind (m := Builtin.Tuple.tupleExact _) (wpAny_newObj_type (wpAny_pure (wpAny_pure ⟨_, rfl, wpAny_pure fin⟩)) hsz))
  | exact wpAny_bind (wpAny_bind (m := Builtin.Tuple.tupleExact _) (wpAny_newObj_type (wpAny_pure ⟨_, rfl, wpAny_pure fin⟩) hsz))
end Mine
end
section
open PySem PySem.W PyProof.Rows
namespace Mine
namespace FR
theorem owner_pat : Manifest.owners.lookup (String.ofList ['r', 'e', '.', 'P', 'a', 't', 't', 'e', 'r', 'n']) = some Manifest.sig_re_Pattern := by kernel_rfl
theorem slot_sub : Slot "re.Pattern" "sub" "re.Pattern.sub" :=
 .of (owner := "re.Pattern") (n := "sub") (by rw [typeLookup_type, builtinLookup_eq_fast]; kernel_rfl) (by decide +kernel) (by decide +kernel) (by decide +kernel)
  (by first | exact .inl (by decide +kernel) | exact .inr (by decide +kernel)) (by rw [isSubtype_type]; kernel_rfl)
theorem type_sub : typeOf (.builtin "re.Pattern.sub") = pure (.type "method_descriptor") := by show builtinType _ = _; rw [builtinType_eq_fast]; kernel_rfl
theorem entry_sub : entryFor table "re.Pattern.sub" = some Builtin.«re.Pattern.sub» := entryFor_of_tree (by kernel_rfl)
theorem args_sub_3 (a b c : Value) : argsOk "re.Pattern.sub" ⟨[a, b, c], []⟩ := by
 unfold argsOk; rw [signature?_of (id := "re.Pattern.sub") (n := ['b', 'u', 's']) (o := ['n', 'r', 'e', 't', 't', 'a', 'P', '.', 'e', 'r']) (by kernel_rfl) owner_pat]; kernel_rfl
theorem entry_loop : entryFor table "re.Pattern.sub.loop" = some Builtin.«re.Pattern.sub.loop» := entryFor_of_tree (by kernel_rfl)
theorem plain_loop : plainId "re.Pattern.sub.loop" = true := by decide +kernel
theorem slot_bsplit : Slot "bytes" "split" "bytes.split" :=
 .of (owner := "bytes") (n := "split") (by rw [typeLookup_type, builtinLookup_eq_fast]; kernel_rfl) (by decide +kernel) (by decide +kernel) (by decide +kernel)
  (by first | exact .inl (by decide +kernel) | exact .inr (by decide +kernel)) (by rw [isSubtype_type]; kernel_rfl)
theorem type_bsplit : typeOf (.builtin "bytes.split") = pure (.type "method_descriptor") := by show builtinType _ = _; rw [builtinType_eq_fast]; kernel_rfl
theorem entry_bsplit : entryFor table "bytes.split" = some Builtin.«bytes.split» := entryFor_of_tree (by kernel_rfl)
theorem args_bsplit_2 (a b : Value) : argsOk "bytes.split" ⟨[a, b], []⟩ := by
 unfold argsOk; rw [signature?_of (id := "bytes.split") (n := ['t', 'i', 'l', 'p', 's']) (o := ['s', 'e', 't', 'y', 'b']) (by kernel_rfl) FB.owner_bytes]; kernel_rfl
theorem slot_bjoin : Slot "bytes" "join" "bytes.join" :=
 .of (owner := "bytes") (n := "join") (by rw [typeLookup_type, builtinLookup_eq_fast]; kernel_rfl) (by decide +kernel) (by decide +kernel) (by decide +kernel)
  (by first | exact .inl (by decide +kernel) | exact .inr (by decide +kernel)) (by rw [isSubtype_type]; kernel_rfl)
theorem type_bjoin : typeOf (.builtin "bytes.join") = pure (.type "method_descriptor") := by show builtinType _ = _; rw [builtinType_eq_fast]; kernel_rfl
theorem entry_bjoin : entryFor table "bytes.join" = some Builtin.«bytes.join» := entryFor_of_tree (by kernel_rfl)
theorem args_bjoin_2 (a b : Value) : argsOk "bytes.join" ⟨[a, b], []⟩ := by
 unfold argsOk; rw [signature?_of (id := "bytes.join") (n := ['n', 'i', 'o', 'j']) (o := ['s', 'e', 't', 'y', 'b']) (by kernel_rfl) FB.owner_bytes]; kernel_rfl
theorem slot_blt : Slot "bytes" "__lt__" "bytes.__lt__" :=
 .of (owner := "bytes") (n := "__lt__") (by rw [typeLookup_type, builtinLookup_eq_fast]; kernel_rfl) (by decide +kernel) (by decide +kernel) (by decide +kernel)
  (by first | exact .inl (by decide +kernel) | exact .inr (by decide +kernel)) (by rw [isSubtype_type]; kernel_rfl)
theorem entry_blt : entryFor table "bytes.__lt__" = some Builtin.«bytes.__lt__» := entryFor_of_tree (by kernel_rfl)
theorem args_blt_2 (a b : Value) : argsOk "bytes.__lt__" ⟨[a, b], []⟩ := by
 unfold argsOk; rw [signature?_of (id := "bytes.__lt__") (n := ['_', '_', 't', 'l', '_', '_']) (o := ['s', 'e', 't', 'y', 'b']) (by kernel_rfl) FB.owner_bytes]; kernel_rfl
theorem slot_bgt : Slot "bytes" "__gt__" "bytes.__gt__" :=
 .of (owner := "bytes") (n := "__gt__") (by rw [typeLookup_type, builtinLookup_eq_fast]; kernel_rfl) (by decide +kernel) (by decide +kernel) (by decide +kernel)
  (by first | exact .inl (by decide +kernel) | exact .inr (by decide +kernel)) (by rw [isSubtype_type]; kernel_rfl)
theorem entry_bgt : entryFor table "bytes.__gt__" = some Builtin.«bytes.__gt__» := entryFor_of_tree (by kernel_rfl)
theorem args_bgt_2 (a b : Value) : argsOk "bytes.__gt__" ⟨[a, b], []⟩ := by
 unfold argsOk; rw [signature?_of (id := "bytes.__gt__") (n := ['_', '_', 't', 'g', '_', '_']) (o := ['s', 'e', 't', 'y', 'b']) (by kernel_rfl) FB.owner_bytes]; kernel_rfl
end FR
end Mine
end
section
open PySem PySem.W PyProof.Rows
namespace Mine
namespace Re
open Sre
def it : Nat → M → M
 | 0, m => m
 | n + 1, m => it n m.step
theorem step_done {m : M} (h : m.outcome.isSome = true) : m.step = m := by unfold M.step; rw [if_pos h]
theorem it_done {m : M} (h : m.outcome.isSome = true) : ∀ n, it n m = m
 | 0 => rfl
 | n + 1 => by show it n m.step = m; rw [step_done h]; exact it_done h n
theorem runFor_it : ∀ (n : Nat) (m : M), m.runFor n = it n m
 | 0, _ => rfl
 | n + 1, m => by
  show (if m.outcome.isSome then m else M.runFor n m.step) = it n m.step
  by_cases h : m.outcome.isSome = true
  ·rw [if_pos h, step_done h, it_done h]
  ·rw [if_neg h]; exact runFor_it n m.step
theorem it_add : ∀ (a b : Nat) (m : M), it (a + b) m = it b (it a m)
 | 0, b, m => by rw [Nat.zero_add]; rfl
 | a + 1, b, m => by rw [Nat.succ_add]; exact it_add a b m.step
theorem drive {Mo : Model} {A : Around} {E : Value → Shared → Prop} {s : Shared} {Q : M → Shared → Prop} : ∀ (turns k : Nat) (m : M), (it k m).outcome.isSome = true → k ≤ 4 * turns → 0 < turns → Q (it k m) s →
  wpAny Mo A (Builtin.Re.reDrive turns m) Q E s
 | 0, _, _, _, _, h, _ => by cases h
 | t + 1, k, m, ho, hk, _, q => by
  unfold Builtin.Re.reDrive
  show wpAny Mo A (if (m.runFor 4).outcome.isSome then pure (m.runFor 4) else do rule "sre.turn"; Builtin.Re.reDrive t (m.runFor 4)) Q E s
  rw [runFor_it]
  by_cases h : (it 4 m).outcome.isSome = true
  ·rw [if_pos h]
   refine wpAny_pure ?_
   rcases Nat.le_total k 4 with h4 | h4
   ·refine o1_1 (Nat.exists_eq_add_of_le h4) fun j hj => ?_
    have e : it 4 m = it k m := by rw [hj, it_add, it_done ho]
    rw [e]; exact q
   ·refine o1_1 (Nat.exists_eq_add_of_le h4) fun j zb => ?_; obtain rfl := zb
    have e : it (4 + j) m = it 4 m := by rw [it_add, it_done h]
    rw [← e]; exact q
  ·rw [if_neg h]
   have h4 : 4 < k := by
    rcases Nat.lt_or_ge 4 k with h4 | h4
    ·exact h4
    ·refine o1_1 (Nat.exists_eq_add_of_le h4) fun j hj => ?_
     exact absurd (by rw [hj, it_add, it_done ho]; exact ho) h
   refine o1_1 (Nat.exists_eq_add_of_le (Nat.le_of_lt h4)) fun j zb => ?_; obtain rfl := zb
   rw [it_add] at ho q
   exact wpAny_bind (wpAny_rule (drive t j (it 4 m) ho (by omega) (by omega) q))
def B (code text : Array Nat) (st pc pos hd : Nat) (om : Bool) (fs : List Sre.Frame) (wt : Nat) (ans : Option Bool) (sn : Sre.Seen) : M :=
 { code, text, lim := text.size, start := st, lastStart := text.size, pc, pos, handed := hd, outermost := om, marks := #[], frames := fs, weight := wt, answer := ans, seen := sn }
def code1 : Array Nat := #[14, 4, 0, 1, 1, 6, 1, 16, 46, 1]
def code2 : Array Nat := #[14, 9, 4, 1, 2, 16, 10, 16, 13, 0, 7, 7, 16, 13, 16, 10, 15, 18, 5, 16, 10, 15, 13, 11, 16, 13, 5, 5, 0, 16, 10, 1, 15, 2, 0, 1]
def F0 (pc p : Nat) (om : Bool) : Sre.Frame := { wait := .nextStart, pc, pos := p, outermost := om }
def Won (a e : Nat) (m : M) : Prop := m.outcome = some .matched ∧ m.start = a ∧ m.handed = e
def Lost (m : M) : Prop := m.outcome = some .failed
theorem won_end {code text : Array Nat} {st pc pos hd : Nat} {om : Bool} {wt : Nat} {sn : Sre.Seen} {k : Nat} {P : M → Prop} (h : ∀ m, Won st hd m → P m) : P (it (k + 1) (B code text st pc pos hd om [] wt (some true) sn)) := by
 show P (it k ({ B code text st pc pos hd om [] wt (some true) sn with outcome := some .matched } : M))
 rw [it_done rfl]; exact h _ ⟨rfl, rfl, rfl⟩
theorem lost_end {code text : Array Nat} {st pc pos hd : Nat} {om : Bool} {wt : Nat} {sn : Sre.Seen} {k : Nat} {P : M → Prop} (h : ∀ m, Lost m → P m) : P (it (k + 1) (B code text st pc pos hd om [] wt (some false) sn)) := by
 show P (it k ({ B code text st pc pos hd om [] wt (some false) sn with outcome := some .failed } : M))
 rw [it_done rfl]; exact h _ rfl
def bol (text : Array Nat) (p : Nat) : Bool := p == 0 || text.getD (p - 1) 0 == 10
def dot (text : Array Nat) (p : Nat) : Prop := bol text p = true ∧ p < text.size ∧ text.getD p 0 = 46
theorem at1 {text : Array Nat} {st p hd : Nat} {om : Bool} {fs : List Sre.Frame} {wt : Nat} {sn : Sre.Seen} {k : Nat} {P : M → Prop}
  (h : ∀ sn, P (it k (if bol text p then B code1 text st 7 p hd om fs wt none sn else B code1 text st 5 p hd om fs wt (some false) sn))) :
  P (it (k + 1) (B code1 text st 5 p hd om fs wt none sn)) := by
 have := h (sn.add 6 |>.add 44)
 show P (it k (if bol text p then _ else _))
 exact this
theorem lit1 {code text : Array Nat} {st pc p hd : Nat} {om : Bool} {fs : List Sre.Frame} {wt : Nat} {sn : Sre.Seen} {k : Nat} {P : M → Prop} (c : Nat) (hpc : pc < code.size) (h16 : code.getD pc 0 = 16) (hc1 : code.getD (pc + 1) 0 = c)
  (h : ∀ sn, P (it k (if p < text.size ∧ text.getD p 0 = c then B code text st (pc + 2) (p + 1) hd om fs wt none sn else B code text st pc p hd om fs wt (some false) sn))) :
  P (it (k + 1) (B code text st pc p hd om fs wt none sn)) := by
 subst hc1
 show P (it k (M.step _))
 have e : M.step (B code text st pc p hd om fs wt none sn) = (if p < text.size ∧ text.getD p 0 = code.getD (pc + 1) 0 then B code text st (pc + 2) (p + 1) hd om fs wt none (sn.add 16) else B code text st pc p hd om fs wt (some false) (sn.add 16)) := by
  have hw : (B code text st pc p hd om fs wt none sn).word 0 = 16 := h16
  have e1 : M.step (B code text st pc p hd om fs wt none sn) = (B code text st pc p hd om fs wt none sn).exec := by
   unfold M.step; rw [if_neg (fun q => by cases q)]; exact if_pos hpc
  rw [e1]; unfold M.exec
  rw [hw]
  show (if p ≥ text.size then _ else match accepts code pc (text.getD p 0) (sn.add 16) with | .error why => _ | .ok (false, seen) => _ | .ok (true, seen) => _) = _
  have ha : accepts code pc (text.getD p 0) (sn.add 16) = .ok (text.getD p 0 == code.getD (pc + 1) 0, sn.add 16) := by unfold accepts; rw [h16]; rfl
  have hi : itemWidth code pc = 2 := by unfold itemWidth; rw [h16]; rfl
  rw [ha]
  by_cases hp : p < text.size
  ·rw [if_neg (by exact Nat.not_le_of_gt (by assumption))]
   by_cases hc : text.getD p 0 = code.getD (pc + 1) 0
   ·rw [if_pos ⟨hp, hc⟩, show (text.getD p 0 == code.getD (pc + 1) 0) = true by simpa using hc]
    show ({ B code text st pc p hd om fs wt none (sn.add 16) with pc := pc + itemWidth code pc, pos := p + 1 } : M) = _
    rw [hi]; rfl
   ·rw [if_neg (fun q => hc q.2), show (text.getD p 0 == code.getD (pc + 1) 0) = false by simpa using hc]; rfl
  ·rw [if_pos (by with_reducible exact Nat.le_of_not_lt (by assumption)), if_neg (fun q => hp q.1)]; rfl
 rw [e]; exact h _
theorem suc {code text : Array Nat} {st pc p hd : Nat} {om : Bool} {fs : List Sre.Frame} {wt : Nat} {sn : Sre.Seen} {k : Nat} {P : M → Prop} (hpc : pc < code.size) (h1 : code.getD pc 0 = 1)
  (h : ∀ sn, P (it k (B code text st pc p p om fs wt (some true) sn))) : P (it (k + 1) (B code text st pc p hd om fs wt none sn)) := by
 show P (it k (M.step _))
 have e : M.step (B code text st pc p hd om fs wt none sn) = B code text st pc p p om fs wt (some true) (sn.add 1) := by
  have hw : (B code text st pc p hd om fs wt none sn).word 0 = 1 := h1
  have e1 : M.step (B code text st pc p hd om fs wt none sn) = (B code text st pc p hd om fs wt none sn).exec := by
   unfold M.step; rw [if_neg (fun q => by cases q)]; exact if_pos hpc
  rw [e1]; unfold M.exec
  rw [hw]
  show (if (om && ((false && _) || (false && _))) = true then _ else _) = _
  rw [if_neg (by simp)]; rfl
 rw [e]; exact h _
theorem jump {code text : Array Nat} {st pc p hd : Nat} {om : Bool} {fs : List Sre.Frame} {wt : Nat} {sn : Sre.Seen} {k : Nat} {P : M → Prop} (hpc : pc < code.size) (h1 : code.getD pc 0 = 15)
  (h : ∀ sn, P (it k (B code text st (pc + 1 + code.getD (pc + 1) 0) p hd om fs wt none sn))) : P (it (k + 1) (B code text st pc p hd om fs wt none sn)) := by
 show P (it k (M.step _))
 have e : M.step (B code text st pc p hd om fs wt none sn) = B code text st (pc + 1 + code.getD (pc + 1) 0) p hd om fs wt none (sn.add 15) := by
  have hw : (B code text st pc p hd om fs wt none sn).word 0 = 15 := h1
  have e1 : M.step (B code text st pc p hd om fs wt none sn) = (B code text st pc p hd om fs wt none sn).exec := by
   unfold M.step; rw [if_neg (fun q => by cases q)]; exact if_pos hpc
  rw [e1]; unfold M.exec
  rw [hw]; rfl
 rw [e]; exact h _
theorem next_yes {code text : Array Nat} {st pc p hd q f : Nat} {om om' : Bool} {sn : Sre.Seen} {k wt : Nat} {P : M → Prop} (h : ∀ wt, P (it k (B code text st f q hd om' [] wt (some true) sn))) :
  P (it (k + 1) (B code text st pc p hd om [F0 f q om'] wt (some true) sn)) := h _
theorem next_no1 {text : Array Nat} {st pc p hd q : Nat} {om om' : Bool} {sn : Sre.Seen} {k : Nat} {P : M → Prop}
  (h : ∀ sn, P (it k (if q < text.size then B code1 text (q + 1) 5 (q + 1) (q + 1) false [F0 5 (q + 1) false] 1 none sn else B code1 text st 5 q hd om' [] 0 (some false) sn))) :
  P (it (k + 1) (B code1 text st pc p hd om [F0 5 q om'] 1 (some false) sn)) := by
 show P (it k (if q < text.size then _ else _))
 exact h sn
theorem search1 {text : Array Nat} : ∀ (d p : Nat) (om : Bool) (sn : Sre.Seen) (k : Nat) (P : M → Prop), p + d = text.size →
  (∀ a m, p ≤ a → dot text a → (∀ j, p ≤ j → j < a → ¬ dot text j) → Won a (a + 1) m → P m) → ((∀ j, p ≤ j → ¬ dot text j) → ∀ m, Lost m → P m) →
  P (it (k + 4 * d + 6) (B code1 text p 5 p p om [F0 5 p om] 1 none sn)) := by
 intro d
 induction d with
 | zero =>
  intro p om sn k P hp hw hl
  have hno : ∀ j, p ≤ j → ¬ dot text j := fun j hj q => by have := q.2.1; omega
  refine at1 (k := k + 5) fun sn => ?_
  by_cases hb : bol text p = true
  ·rw [if_pos hb]
   refine lit1 (k := k + 4) 46 (by decide) rfl rfl fun sn => ?_
   rw [if_neg (fun q => by omega)]
   refine next_no1 (k := k + 3) fun sn => ?_
   rw [if_neg (by omega)]
   exact lost_end (k := k + 2) (hl hno)
  ·rw [if_neg hb]
   refine next_no1 (k := k + 4) fun sn => ?_
   rw [if_neg (by omega)]
   exact lost_end (k := k + 3) (hl hno)
 | succ d ih =>
  intro p om sn k P hp hw hl
  have next : ∀ k sn, ¬ dot text p → P (it (k + 4 * d + 6) (B code1 text (p + 1) 5 (p + 1) (p + 1) false [F0 5 (p + 1) false] 1 none sn)) := fun k sn hnd =>
   ih (p + 1) false sn k P (by exact Om.addL1 (by assumption)) (fun a m ha hd hj w => hw a m (by exact Nat.le_of_succ_le (by assumption)) hd (fun j h1 h2 => by
    rcases Nat.lt_or_ge p j with q | q
    ·exact hj j q h2
    ·rw [show j = p by exact Nat.le_antisymm (by assumption) (by assumption)]; exact hnd) w) (fun hj m l => hl (fun j h1 => by
    rcases Nat.lt_or_ge p j with q | q
    ·exact hj j q
    ·rw [show j = p by exact Nat.le_antisymm (by assumption) (by assumption)]; exact hnd) m l)
  rw [show k + 4 * (d + 1) + 6 = (k + 4 * d + 9) + 1 by rfl]
  refine at1 fun sn => ?_
  by_cases hb : bol text p = true
  ·rw [if_pos hb]
   rw [show k + 4 * d + 9 = (k + 4 * d + 8) + 1 by with_reducible rfl]
   refine lit1 46 (by decide) rfl rfl fun sn => ?_
   by_cases hc : p < text.size ∧ text.getD p 0 = 46
   ·rw [if_pos hc]
    rw [show k + 4 * d + 8 = (k + 4 * d + 7) + 1 by with_reducible rfl]
    refine suc (by decide) rfl fun sn => ?_
    rw [show k + 4 * d + 7 = (k + 4 * d + 6) + 1 by with_reducible rfl]
    refine next_yes fun wt => ?_
    rw [show k + 4 * d + 6 = (k + 4 * d + 5) + 1 by with_reducible rfl]
    exact won_end fun m w => hw p m (Nat.le_refl _) ⟨hb, hc.1, hc.2⟩ (fun j h1 h2 => by omega) w
   ·rw [if_neg hc]
    rw [show k + 4 * d + 8 = (k + 4 * d + 7) + 1 by with_reducible rfl]
    refine next_no1 fun sn => ?_
    rw [if_pos (by exact Om.addL2 (by assumption))]
    rw [show k + 4 * d + 7 = (k + 1) + 4 * d + 6 by omega]
    exact next _ sn fun q => hc ⟨q.2.1, q.2.2⟩
  ·rw [if_neg hb]
   rw [show k + 4 * d + 9 = (k + 4 * d + 8) + 1 by with_reducible rfl]
   refine next_no1 fun sn => ?_
   rw [if_pos (by exact Om.addL2 (by assumption))]
   rw [show k + 4 * d + 8 = (k + 2) + 4 * d + 6 by omega]
   exact next _ sn fun q => hb q.1
theorem lost_gen {m : M} {k : Nat} {P : M → Prop} (h1 : m.answer = some false) (h2 : m.frames = []) (h3 : m.outcome = none) (h : ∀ m, Lost m → P m) : P (it (k + 1) m) := by
 obtain ⟨a1, a2, a3, a4, a5, a6, a7, a8, a9, a10, a11, a12, a13, a14, a15, a16, frames, a18, answer, a20, outcome⟩ := m
 cases h1; cases h2; cases h3
 refine (?_ : P (it k _))
 rw [it_done rfl]; exact h _ rfl
theorem begin1 {text : Array Nat} {p : Nat} (hp : p ≤ text.size) (k : Nat) (P : M → Prop)
  (hw : ∀ a m, p ≤ a → dot text a → (∀ j, p ≤ j → j < a → ¬ dot text j) → Won a (a + 1) m → P m) (hl : (∀ j, p ≤ j → ¬ dot text j) → ∀ m, Lost m → P m) :
  P (it (k + 4 * (text.size - p) + 6) (Sre.forSearch code1 text 0 p text.size false)) := by
 have e : Sre.forSearch code1 text 0 p text.size false = (if (decide (p > text.size) || decide (text.size - p < 1)) = true then ({ B code1 text p 5 p p true [] 0 (some false) (({} : Sre.Seen).add 14) with lastStart := 0 } : M) else B code1 text p 5 p p true [F0 5 p true] 1 none (({} : Sre.Seen).add 14)) := rfl
 rw [e]
 by_cases h : p = text.size
 ·rw [if_pos (by simp; omega)]
  exact lost_gen (k := k + 4 * (text.size - p) + 5) rfl rfl rfl (hl fun j hj q => by have := q.2.1; omega)
 ·rw [if_neg (by simp; omega)]
  exact search1 (text.size - p) p true _ k P (by exact Nat.add_sub_of_le (by assumption)) hw hl
def nl (text : Array Nat) (p : Nat) : Prop := p < text.size ∧ (text.getD p 0 = 10 ∨ text.getD p 0 = 13)
def nlen (text : Array Nat) (p : Nat) : Nat := if text.getD p 0 = 13 ∧ p + 1 < text.size ∧ text.getD (p + 1) 0 = 10 then 2 else 1
theorem inSet2 (c : Nat) (sn : Sre.Seen) : ∃ sn', inSet code2 c code2.size 5 true sn = .ok (c == 10 || c == 13, sn') := by
 by_cases h1 : c = 10
 ·subst h1; exact ⟨_, rfl⟩
 ·by_cases h2 : c = 13
  ·subst h2; exact ⟨_, rfl⟩
  ·have e1 : (c == 10) = false := by simpa using h1
   have e2 : (c == 13) = false := by simpa using h2
   refine ⟨((sn.add 16).add 16).add 0, ?_⟩
   show (if (c == 10) = true then _ else if (c == 13) = true then _ else _) = _
   rw [e1, e2]; rfl
theorem admitted2 (m : M) {text : Array Nat} (hc : m.code = code2) (ht : m.text = text) (hlim : m.lim = text.size) : ∀ (fuel p : Nat) (sn : Sre.Seen), p + fuel = text.size + 1 →
  (∃ a sn', M.admitted m fuel p sn = .ok (some a, sn') ∧ p ≤ a ∧ nl text a ∧ ∀ j, p ≤ j → j < a → ¬ nl text j) ∨ (∃ sn', M.admitted m fuel p sn = .ok (none, sn') ∧ ∀ j, p ≤ j → ¬ nl text j) := by
 intro fuel
 induction fuel with
 | zero => intro p sn h; exact .inr (i1_2 sn rfl (fun j hj q => by have := q.1; omega))
 | succ fuel ih =>
  intro p sn h
  by_cases hp : p ≥ text.size
  ·refine .inr (i1_2 sn ?_ (fun j hj q => by have := q.1; omega))
   show (if p ≥ m.lim then _ else _) = _
   rw [hlim, if_pos hp]
  ·refine o1_1 (inSet2 (text.getD p 0) sn) fun sn' e => ?_
   have hst : M.admitted m (fuel + 1) p sn = (match Except.ok (ε := String) (text.getD p 0 == 10 || text.getD p 0 == 13, sn') with | .ok (true, seen) => .ok (some p, seen) | .ok (false, seen) => M.admitted m fuel (p + 1) seen | .error why => .error why) := by
    show (if p ≥ m.lim then _ else match inSet m.code (m.text.getD p 0) m.code.size 5 true sn with | Except.ok (true, seen) => Except.ok (some p, seen) | Except.ok (false, seen) => M.admitted m fuel (p + 1) seen | Except.error why => Except.error why) = _
    rw [hlim, if_neg hp, hc, ht, e]
   rw [hst]
   by_cases hn : text.getD p 0 = 10 ∨ text.getD p 0 = 13
   ·have : (text.getD p 0 == 10 || text.getD p 0 == 13) = true := by simpa using hn
    rw [this]
    exact .inl (i2_4 p sn' rfl (Nat.le_refl _) ⟨by with_reducible exact Nat.lt_of_not_le (by assumption), hn⟩ (fun j h1 h2 => by omega))
   ·have : (text.getD p 0 == 10 || text.getD p 0 == 13) = false := by simpa using hn
    rw [this]
    have hnp : ¬ nl text p := fun q => hn q.2
    rcases ih (p + 1) sn' (by exact Om.addL1 (by assumption)) with ⟨a, sn'', e1, e2, e3, e4⟩ | ⟨sn'', e1, e2⟩
    ·refine .inl (i2_4 a sn'' e1 (by exact Nat.le_of_succ_le (by assumption)) e3 (fun j h1 h2 => ?_))
     rcases Nat.lt_or_ge p j with q | q
     ·exact e4 j q h2
     ·rw [show j = p by exact Nat.le_antisymm (by assumption) (by assumption)]; exact hnp
    ·refine .inr (i1_2 sn'' e1 (fun j h1 => ?_))
     rcases Nat.lt_or_ge p j with q | q
     ·exact e2 j q
     ·rw [show j = p by exact Nat.le_antisymm (by assumption) (by assumption)]; exact hnp
def FB (f p : Nat) (om : Bool) : Sre.Frame := { wait := .nextBranch, pc := f, pos := p, outermost := om }
def FN (f p : Nat) (om : Bool) : Sre.Frame := { wait := .lookNot, pc := f, pos := p, outermost := om }
section
variable {text : Array Nat} {a p hd k : Nat} {om om' : Bool} {sn : Sre.Seen} {P : M → Prop} {pc : Nat}
theorem br (h : ∀ sn, P (it k (B code2 text a 12 p p om [FB 11 p om, F0 10 a true] 2 none sn))) : P (it (k + 1) (B code2 text a 10 p hd om [F0 10 a true] 1 none sn)) := h (sn.add 7)
theorem br1 (h : ∀ sn, P (it k (B code2 text a 19 p p om [FB 18 p om, F0 10 a true] 2 none sn))) : P (it (k + 1) (B code2 text a pc hd hd om' [FB 11 p om, F0 10 a true] 2 (some false) sn)) := h sn
theorem br1' {pos : Nat} (h : ∀ sn, P (it k (B code2 text a 19 p p om [FB 18 p om, F0 10 a true] 2 none sn))) : P (it (k + 1) (B code2 text a pc pos hd om' [FB 11 p om, F0 10 a true] 2 (some false) sn)) := h sn
theorem br2 {pos : Nat} (h : ∀ sn, P (it k (B code2 text a 24 p p om [FB 23 p om, F0 10 a true] 2 none sn))) : P (it (k + 1) (B code2 text a pc pos hd om' [FB 18 p om, F0 10 a true] 2 (some false) sn)) := h sn
theorem bry {pos f wt : Nat} (h : ∀ sn wt, P (it k (B code2 text a f p hd om [F0 10 a true] wt (some true) sn))) : P (it (k + 1) (B code2 text a pc pos hd om' [FB f p om, F0 10 a true] wt (some true) sn)) := h sn _
theorem look (h : ∀ sn, P (it k (B code2 text a 29 p p false [FN 26 p om, FB 23 a true, F0 10 a true] 3 none sn))) : P (it (k + 1) (B code2 text a 26 p hd om [FB 23 a true, F0 10 a true] 2 none sn)) := h (sn.add 5)
theorem lookn {pos : Nat} (h : ∀ sn, P (it k (B code2 text a 32 p hd om [FB 23 a true, F0 10 a true] 2 none sn))) : P (it (k + 1) (B code2 text a pc pos hd om' [FN 26 p om, FB 23 a true, F0 10 a true] 3 (some false) sn)) := h sn
theorem row_end (ha : nl text a) (h : ∀ m, Won a (a + nlen text a) m → P m) : P (it (k + 20) (B code2 text a 10 a a true [F0 10 a true] 1 none sn)) := by
 refine br (k := k + 19) fun sn => ?_
 refine lit1 (k := k + 18) 13 (by decide) rfl rfl fun sn => ?_
 have fin : ∀ (e hd wt k : Nat) sn f, nlen text a = e → P (it (k + 5) (B code2 text a 35 (a + e) hd true [FB f a true, F0 10 a true] wt none sn)) := fun e hd wt k sn f he => by
  refine suc (k := k + 4) (by decide) rfl fun sn => ?_
  refine bry (k := k + 3) fun sn wt => ?_
  refine next_yes (k := k + 2) fun wt => ?_
  subst he
  exact won_end (k := k + 1) h
 by_cases h13 : text.getD a 0 = 13
 ·rw [if_pos ⟨ha.1, h13⟩]
  refine lit1 (k := k + 17) 10 (by decide) rfl rfl fun sn => ?_
  by_cases h10 : a + 1 < text.size ∧ text.getD (a + 1) 0 = 10
  ·rw [if_pos h10]
   refine jump (k := k + 16) (by decide) rfl fun sn => ?_
   exact fin 2 _ _ (k + 11) sn 11 (by unfold nlen; rw [if_pos ⟨h13, h10⟩])
  ·rw [if_neg h10]
   refine br1' (k := k + 16) fun sn => ?_
   refine lit1 (k := k + 15) 10 (by decide) rfl rfl fun sn => ?_
   rw [if_neg (fun q => by rw [h13] at q; exact absurd q.2 (by decide))]
   refine br2 (k := k + 14) fun sn => ?_
   refine lit1 (k := k + 13) 13 (by decide) rfl rfl fun sn => ?_
   rw [if_pos ⟨ha.1, h13⟩]
   refine look (k := k + 12) fun sn => ?_
   refine lit1 (k := k + 11) 10 (by decide) rfl rfl fun sn => ?_
   rw [if_neg h10]
   refine lookn (k := k + 10) fun sn => ?_
   refine jump (k := k + 9) (by decide) rfl fun sn => ?_
   exact fin 1 _ _ (k + 4) sn 23 (by unfold nlen; rw [if_neg fun q => h10 q.2])
 ·have h10 : text.getD a 0 = 10 := ha.2.resolve_right h13
  rw [if_neg fun q => h13 q.2]
  refine br1' (k := k + 17) fun sn => ?_
  refine lit1 (k := k + 16) 10 (by decide) rfl rfl fun sn => ?_
  rw [if_pos ⟨ha.1, h10⟩]
  refine jump (k := k + 15) (by decide) rfl fun sn => ?_
  exact fin 1 _ _ (k + 10) sn 18 (by unfold nlen; rw [if_neg fun q => h13 q.1])
end
theorem begin2 {text : Array Nat} {p : Nat} (hp : p ≤ text.size) (k : Nat) (P : M → Prop)
  (hw : ∀ a m, p ≤ a → nl text a → (∀ j, p ≤ j → j < a → ¬ nl text j) → Won a (a + nlen text a) m → P m) (hl : (∀ j, p ≤ j → ¬ nl text j) → ∀ m, Lost m → P m) :
  P (it (k + 20) (Sre.forSearch code2 text 0 p text.size false)) := by
 have e : Sre.forSearch code2 text 0 p text.size false = (if (decide (p > text.size) || decide (text.size - p < 1)) = true then ({ B code2 text p 10 p p true [] 0 (some false) (({} : Sre.Seen).add 14) with lastStart := 0 } : M) else
   M.attemptFrom (B code2 text p 10 p p true [] 0 none (({} : Sre.Seen).add 14)) p true) := rfl
 rw [e]
 by_cases h : p = text.size
 ·rw [if_pos (by simp; omega)]
  exact lost_gen (k := k + 19) rfl rfl rfl (hl fun j hj q => by have := q.1; omega)
 ·rw [if_neg (by simp; omega)]
  rcases admitted2 (B code2 text p 10 p p true [] 0 none (({} : Sre.Seen).add 14)) (text := text) rfl rfl rfl (text.size + 1 - p) p (({} : Sre.Seen).add 14) (by omega) with ⟨a, sn', e1, e2, e3, e4⟩ | ⟨sn', e1, e2⟩
  ·have e5 : M.attemptFrom (B code2 text p 10 p p true [] 0 none (({} : Sre.Seen).add 14)) p true = B code2 text a 10 a a true [F0 10 a true] 1 none sn' := by
    unfold M.attemptFrom
    rw [if_neg (fun q => by cases q)]
    show (match M.admitted (B code2 text p 10 p p true [] 0 none (({} : Sre.Seen).add 14)) (text.size + 1 - p) p (({} : Sre.Seen).add 14) with | Except.ok (some s, seen) => _ | Except.ok (none, seen) => _ | Except.error why => _) = _
    rw [e1]; rfl
   rw [e5]; exact row_end e3 fun m w => hw a m e2 e3 e4 w
  ·have e5 : M.attemptFrom (B code2 text p 10 p p true [] 0 none (({} : Sre.Seen).add 14)) p true = B code2 text p 10 p p true [] 0 (some false) sn' := by
    unfold M.attemptFrom
    rw [if_neg (fun q => by cases q)]
    show (match M.admitted (B code2 text p 10 p p true [] 0 none (({} : Sre.Seen).add 14)) (text.size + 1 - p) p (({} : Sre.Seen).add 14) with | Except.ok (some s, seen) => _ | Except.ok (none, seen) => _ | Except.error why => _) = _
    rw [e1]; rfl
   rw [e5]; exact lost_gen (k := k + 19) rfl rfl rfl (hl e2)
end Re
end Mine
end
section
open PySem PySem.W PyProof.Rows PySem.Calls
namespace Mine
inductive FnE (W : Wd) (st : Stmt) (f : Addr) : Prop where
 | mk : ∀ o name qual kV doc pm an cdv ct, W.h₀.get? f = some o → o.data = .func (fnOf name qual (fnA st) (fnB st) (fnS st) .none kV doc pm an cdv ct) → W.h₀.CodeRec cdv qual → FnE W st f
structure FnOb (W : Wd) (st : Stmt) (f : Addr) : Prop where
 obj : FnE W st f
structure FnAt (W : Wd) (x : Str) (i : Nat) (f : Addr) : Prop extends FnOb W (top i) f where
 at_ : W.mg x = some (.ref f)
theorem FnOb.keep {W : Wd} {st : Stmt} {f : Addr} (h : FnOb W st f) : KeepOk W (.ref f) := by
 obtain ⟨o, name, qual, kV, doc, pm, an, cdv, ct, e, d, c⟩ := h.obj
 exact KeepOk.fn e d
theorem FnAt.top_ {W : Wd} {x : Str} {i : Nat} {f : Addr} (h : FnAt W x i f) : W.Top x (.ref f) := .inl h.at_
theorem list1 {α : Type} : ∀ {l : List α}, l.length = 1 → ∃ a, l = [a]
 | a :: r, h => ⟨a, by rw [List.eq_nil_of_length_eq_zero (Nat.succ.inj h)]⟩
theorem lcons {α : Type} {n : Nat} : ∀ {l : List α}, l.length = n + 1 → ∃ a r, r.length = n ∧ l = a :: r
 | a :: r, h => (i2_2 a r (Nat.succ.inj h) rfl)
theorem list2 {α : Type} {l : List α} (h : l.length = 2) : ∃ a b, l = [a, b] := o2_2 (lcons h) fun a r h z => o1_1 (list1 h) fun b q => (i2_1 a b (by rw [z, q]))
theorem list3 {α : Type} {l : List α} (h : l.length = 3) : ∃ a b c, l = [a, b, c] := o2_2 (lcons h) fun a r h z => o2_1 (list2 h) fun b c q => (i3_1 a b c (by rw [z, q]))
theorem list4 {α : Type} {l : List α} (h : l.length = 4) : ∃ a b c d, l = [a, b, c, d] := o2_2 (lcons h) fun a r h z => o3_1 (list3 h) fun b c d q => (i4_1 a b c d (by rw [z, q]))
theorem list5 {α : Type} {l : List α} (h : l.length = 5) : ∃ a b c d e, l = [a, b, c, d, e] := o2_2 (lcons h) fun a r h z => o4_1 (list4 h) fun b c d e q => (i5_1 a b c d e (by rw [z, q]))
def Binds (st : Stmt) (xs : List Str) : Prop := ∀ (name qual : Str) (kV doc pm : Value) (an : Option Addr) (cdv ct : Value) (vals : List Value), vals.length = xs.length →
 bindArgs (fnOf name qual (fnA st) (fnB st) (fnS st) .none kV doc pm an cdv ct) ⟨vals, []⟩ = pure (xs.zip vals)
theorem CallP.ob {W : Wd} {n : Nat} {st : Stmt} {f : Addr} {ps : List PV} {Ψ : PV → Prop} (hf : FnOb W st f) (xs : List Str) (hb : Binds st xs)
  (h : ∀ qual L cdv, Ex W n (envF qual (fnS st) L f cdv) (cellNames (fnS st)) (fnB st) (xs.zip (ps.map .fz)) (retIs Ψ))
  (hlen : xs.length = ps.length := by with_unfolding_all rfl) (hnd : xs.Nodup := by decide)
  (hk : ∀ x ∈ xs, (fnS st).names.lookup x = some .local ∨ (fnS st).names.lookup x = some .cell := by decide)
  (hcells : ∀ x ∈ cellNames (fnS st), (fnS st).names.lookup x = some .cell := by decide)
  (hco : (fnS st).isCoroutine = false := by with_unfolding_all rfl) (hgen : (fnS st).isGenerator = false := by with_unfolding_all rfl) (hkf : (fnS st).kind = .function := by with_unfolding_all rfl) : CallP W (n + 1) (.val (.ref f)) ps Ψ := by
 obtain ⟨o, name, qual, kV, doc, pm, an, cdv, ct, e, d, c⟩ := hf.obj
 exact CallP.fn e d c (fun vals hv => hb name qual kV doc pm an cdv ct vals (by rw [hv, hlen])) hlen hnd hk hcells (fun L => h qual L cdv) hco hgen hkf
theorem Sto.look {σ : Sto} {x y : Str} {sv sv' : SV} (h : y ≠ x) (k : σ.lookup y = some sv') : (σ.put x sv).lookup y = some sv' := (Sto.put_ne sv h σ).trans k
section
variable {W : Wd} {n : Nat} {env : Env} {wr : List Str} {σ : Sto}
theorem Parts.no {Ψ : PV → Sto → Prop} (h : Ψ .none σ) : Parts W n env wr none σ Ψ := h
theorem Parts.so {e : Expr} {Ψ : PV → Sto → Prop} (h : Ev W n env wr e σ Ψ) : Parts W n env wr (some e) σ Ψ := h
theorem Evs.nil {Ψ : List PV → Sto → Prop} (h : Ψ [] σ) : Evs W n env wr [] σ Ψ := h
theorem Evs.cons {e : Expr} {es : List Expr} {Ψ : List PV → Sto → Prop} (h : Ev W n env wr e σ (KEvs W n env wr es Ψ)) : Evs W n env wr (e :: es) σ Ψ := h
theorem EvKV.nil {Ψ : List (Str × PV) → Sto → Prop} (h : Ψ [] σ) : EvKV W n env wr [] [] σ Ψ := h
abbrev KKV3 (x : Str) (q : PV) (Ψ : List (Str × PV) → Sto → Prop) (es : List (Str × PV)) (σ : Sto) : Prop := Ψ ((x, q) :: es) σ
abbrev KKV2 (W : Wd) (n : Nat) (env : Env) (wr : List Str) (ks : List (Option Expr)) (vs : List Expr) (x : Str) (Ψ : List (Str × PV) → Sto → Prop) (q : PV) (σ : Sto) : Prop := EvKV W n env wr ks vs σ (KKV3 x q Ψ)
inductive KKV (W : Wd) (n : Nat) (env : Env) (wr : List Str) (ks : List (Option Expr)) (v : Expr) (vs : List Expr) (Ψ : List (Str × PV) → Sto → Prop) : PV → Sto → Prop where
 | mk {x : Str} {σ : Sto} (h : Ev W n env wr v σ (KKV2 W n env wr ks vs x Ψ)) : KKV W n env wr ks v vs Ψ (.str x) σ
theorem EvKV.cons {k v : Expr} {ks : List (Option Expr)} {vs : List Expr} {Ψ : List (Str × PV) → Sto → Prop}
  (h : Ev W n env wr k σ (KKV W n env wr ks v vs Ψ)) : EvKV W n env wr (some k :: ks) (v :: vs) σ Ψ := Ev.mono h fun _ _ h => by
 cases h with
 | mk h => exact (i1_2 _ rfl h)
theorem Asgs.nil {Φ : Sto → Prop} (h : Φ σ) : Asgs W n env wr [] [] σ Φ := h
abbrev KAsgs (W : Wd) (n : Nat) (env : Env) (wr : List Str) (es : List Expr) (qs : List PV) (Φ : Sto → Prop) (σ : Sto) : Prop := Asgs W n env wr es qs σ Φ
theorem Asgs.cons {e : Expr} {es : List Expr} {q : PV} {qs : List PV} {Φ : Sto → Prop} (h : Asg W n env wr e q σ (KAsgs W n env wr es qs Φ)) : Asgs W n env wr (e :: es) (q :: qs) σ Φ := h
theorem Tsts.nil {op : BoolOp} {Φ : Bool → Sto → Prop} (h : Φ (op == .And) σ) : Tsts W n env wr op [] σ Φ := h
theorem Tsts.cons {op : BoolOp} {e : Expr} {es : List Expr} {Φ : Bool → Sto → Prop} (h : Tst W n env wr e σ (KTsts W n env wr op es Φ)) : Tsts W n env wr op (e :: es) σ Φ := h
theorem forL.nil {tgt : Expr} {body : List Stmt} {Φ : PF → Sto → Prop} (h : Φ .next σ) : forL W n env wr tgt body [] σ Φ := h
abbrev KLpL (W : Wd) (n : Nat) (env : Env) (wr : List Str) (tgt : Expr) (body : List Stmt) (ps : List PV) (Φ : PF → Sto → Prop) (σ : Sto) : Prop := forL W n env wr tgt body ps σ Φ
abbrev KLpT (W : Wd) (n : Nat) (env : Env) (wr : List Str) (elts : List Expr) (body : List Stmt) (ps : List (List PV)) (Φ : PF → Sto → Prop) (σ : Sto) : Prop := forT W n env wr elts body ps σ Φ
theorem forL.cons {tgt : Expr} {body : List Stmt} {p : PV} {ps : List PV} {Φ : PF → Sto → Prop} (h : Asg W n env wr tgt p σ (KBody W n env wr body (Lp (KLpL W n env wr tgt body ps Φ) Φ))) : forL W n env wr tgt body (p :: ps) σ Φ := h
theorem forT.nil {elts : List Expr} {body : List Stmt} {Φ : PF → Sto → Prop} (h : Φ .next σ) : forT W n env wr elts body [] σ Φ := h
theorem forT.cons {elts : List Expr} {body : List Stmt} {p : List PV} {ps : List (List PV)} {Φ : PF → Sto → Prop} (h : Asgs W n env wr elts p σ (KBody W n env wr body (Lp (KLpT W n env wr elts body ps Φ) Φ))) (hl : p.length = elts.length := by with_unfolding_all rfl) : forT W n env wr elts body (p :: ps) σ Φ := ⟨hl, h⟩
theorem forL.inv {tgt : Expr} {body : List Stmt} {items : List PV} {Φ : PF → Sto → Prop} (I : Nat → Sto → Prop) (h0 : I 0 σ)
  (step : ∀ i p σ, items[i]? = some p → I i σ → ∀ Ω : PF → Sto → Prop, (∀ σ, I (i + 1) σ → Ω .next σ) → Asg W n env wr tgt p σ (KBody W n env wr body Ω))
  (fin : ∀ σ, I items.length σ → Φ .next σ) : forL W n env wr tgt body items σ Φ := by
 have key : ∀ (l : List PV) (k : Nat) (σ : Sto), items.drop k = l → k ≤ items.length → I k σ → forL W n env wr tgt body l σ Φ := by
  intro l
  induction l with
  | nil => intro k σ e hk hI; exact fin σ (by have := List.drop_eq_nil_iff.mp e; rwa [show items.length = k by exact Nat.le_antisymm (by assumption) (by assumption)])
  | cons p l ih =>
   intro k σ e hk hI
   have hp : items[k]? = some p := by have := congrArg (·[0]?) e; simpa using this
   have hlt := (List.getElem?_eq_some_iff.mp hp).1
   exact step k p σ hp hI _ fun σ₂ h₂ => ih (k + 1) σ₂ (by have := congrArg (List.drop 1) e; simpa [Nat.add_comm] using this) hlt h₂
 exact key items 0 σ rfl (Nat.zero_le _) h0
theorem forT.inv {elts : List Expr} {body : List Stmt} {items : List (List PV)} {Φ : PF → Sto → Prop} (I : Nat → Sto → Prop) (h0 : I 0 σ)
  (step : ∀ i p σ, items[i]? = some p → I i σ → ∀ Ω : PF → Sto → Prop, (∀ σ, I (i + 1) σ → Ω .next σ) → p.length = elts.length ∧ Asgs W n env wr elts p σ (KBody W n env wr body Ω))
  (fin : ∀ σ, I items.length σ → Φ .next σ) : forT W n env wr elts body items σ Φ := by
 have key : ∀ (l : List (List PV)) (k : Nat) (σ : Sto), items.drop k = l → k ≤ items.length → I k σ → forT W n env wr elts body l σ Φ := by
  intro l
  induction l with
  | nil => intro k σ e hk hI; exact fin σ (by have := List.drop_eq_nil_iff.mp e; rwa [show items.length = k by exact Nat.le_antisymm (by assumption) (by assumption)])
  | cons p l ih =>
   intro k σ e hk hI
   have hp : items[k]? = some p := by have := congrArg (·[0]?) e; simpa using this
   have hlt := (List.getElem?_eq_some_iff.mp hp).1
   exact step k p σ hp hI _ fun σ₂ h₂ => ih (k + 1) σ₂ (by have := congrArg (List.drop 1) e; simpa [Nat.add_comm] using this) hlt h₂
 exact key items 0 σ rfl (Nat.zero_le _) h0
def KEm (emit : Sto → List PV → (Sto → List PV → Prop) → Prop) (acc : List PV) (Φ' : Sto → List PV → Prop) (b : Bool) (σ : Sto) : Prop := if b then emit σ acc Φ' else Φ' σ acc
abbrev KCts (W : Wd) (n : Nat) (env : Env) (wr : List Str) (ifs : List Expr) (emit : Sto → List PV → (Sto → List PV → Prop) → Prop) (acc : List PV) (Φ' : Sto → List PV → Prop) (σ : Sto) : Prop := CTs W n env wr ifs σ (KEm emit acc Φ')
theorem KTst.em {emit : Sto → List PV → (Sto → List PV → Prop) → Prop} {acc : List PV} {Φ' : Sto → List PV → Prop} {b : Bool} (h : if b then emit σ acc Φ' else Φ' σ acc) : KTst (KEm emit acc Φ') (.bool b) σ := .mk h
theorem compB.inv {emit : Sto → List PV → (Sto → List PV → Prop) → Prop} {tgt : Expr} {ifs : List Expr} {items acc : List PV} {Φ : Sto → List PV → Prop} (I : Nat → Sto → List PV → Prop) (h0 : I 0 σ acc)
  (step : ∀ i p σ acc, items[i]? = some p → I i σ acc → ∀ Φ' : Sto → List PV → Prop, (∀ σ acc, I (i + 1) σ acc → Φ' σ acc) → AsgX W n env wr tgt p σ (KCts W n env wr ifs emit acc Φ'))
  (fin : ∀ σ acc, I items.length σ acc → Φ σ acc) : compB W n env wr emit tgt ifs items σ acc Φ := by
 have key : ∀ (l : List PV) (k : Nat) (σ : Sto) (acc : List PV), items.drop k = l → k ≤ items.length → I k σ acc → compB W n env wr emit tgt ifs l σ acc Φ := by
  intro l
  induction l with
  | nil => intro k σ acc e hk hI; exact fin σ acc (by have := List.drop_eq_nil_iff.mp e; rwa [show items.length = k by exact Nat.le_antisymm (by assumption) (by assumption)])
  | cons p l ih =>
   intro k σ acc e hk hI
   have hp : items[k]? = some p := by have := congrArg (·[0]?) e; simpa using this
   have hlt := (List.getElem?_eq_some_iff.mp hp).1
   exact step k p σ acc hp hI _ fun σ₂ acc₂ h₂ => ih (k + 1) σ₂ acc₂ (by have := congrArg (List.drop 1) e; simpa [Nat.add_comm] using this) hlt h₂
 exact key items 0 σ acc rfl (Nat.zero_le _) h0
theorem AsgX.name {x : Str} {px : Pos} {p : PV} {Φ : Sto → Prop} (hw : Writable env wr x) (h : Φ (σ.put x (.fz p))) : AsgX W n env wr (.Name x px) p σ Φ := Asg.name hw h
theorem AsgX.tup {es : List Expr} {k : Nat} {px : Pos} {qs : List PV} {Φ : Sto → Prop} (hl : qs.length = es.length) (h : Asgs W n env wr es qs σ Φ) (hn : noStar es = true := by with_unfolding_all rfl) : AsgX W n env wr (.Tuple es k px) (.tuple qs) σ Φ := ⟨qs, rfl, hl, hn, h⟩
theorem CTs.no {Φ : Bool → Sto → Prop} (h : Φ true σ) : CTs W n env wr [] σ Φ := h
theorem CTs.one {e : Expr} {Φ : Bool → Sto → Prop} (h : Tst W n env wr e σ Φ) : CTs W n env wr [e] σ Φ := h
theorem CTs.yes {emit : Sto → List PV → (Sto → List PV → Prop) → Prop} {acc : List PV} {Φ' : Sto → List PV → Prop} (h : emit σ acc Φ') : CTs W n env wr [] σ (KEm emit acc Φ') := by show KEm emit acc Φ' true σ; unfold KEm; rw [if_pos rfl]; exact h
theorem Evs.len : ∀ {es : List Expr} {σ : Sto} {Ψ : List PV → Sto → Prop}, Evs W n env wr es σ Ψ → Evs W n env wr es σ fun ps σ' => ps.length = es.length ∧ Ψ ps σ'
 | [], _, _, h => ⟨rfl, h⟩
 | e :: es, _, _, h => Ev.mono h fun p σ₁ h₁ => Evs.mono (Evs.len h₁) fun ps σ₂ zz => o0_2 zz fun a b => ⟨by simp [a], b⟩
where
 Evs.mono : ∀ {es : List Expr} {σ : Sto} {Ψ Ψ' : List PV → Sto → Prop}, Evs W n env wr es σ Ψ → (∀ ps σ', Ψ ps σ' → Ψ' ps σ') → Evs W n env wr es σ Ψ'
 | [], _, _, _, h, k => k _ _ h
 | e :: es, _, _, _, h, k => Ev.mono h fun p σ₁ h₁ => Evs.mono h₁ fun ps σ₂ h₂ => k _ _ h₂
theorem Evs.sz {es : List Expr} {Ψ : List PV → Sto → Prop} (hz : es.length ≤ 64) (h : Evs W n env wr es σ Ψ) : Evs W n env wr es σ fun ps σ' => ps.length ≤ sizeLine ∧ Ψ ps σ' :=
 Evs.len.Evs.mono (Evs.len h) fun ps σ' zz => o0_2 zz fun a b => ⟨by rw [a]; exact Nat.le_trans hz (by decide), b⟩
theorem Ev.listN {es : List Expr} {pos : Pos} {Ψ : PV → Sto → Prop} (h : Evs W n env wr es σ (KList Ψ)) (hz : es.length ≤ 64 := by decide) (hn : noStar es = true := by with_unfolding_all rfl) : Ev W n env wr (.List es pos) σ Ψ := Ev.list (Evs.sz hz h) hn
theorem Ev.tupN {es : List Expr} {k : Nat} {pos : Pos} {Ψ : PV → Sto → Prop} (h : Evs W n env wr es σ (KTup Ψ)) (hz : es.length ≤ 64 := by decide) (hn : noStar es = true := by with_unfolding_all rfl) : Ev W n env wr (.Tuple es k pos) σ Ψ := Ev.tup (Evs.sz hz h) hn
theorem Ex1.listN {x : Str} {px pos' pos : Pos} {es : List Expr} {Φ : PF → Sto → Prop} (hw : Writable env wr x) (h : Evs W n env wr es σ (KOl x Φ))
  (hz : es.length ≤ 64 := by decide) (hn : noStar es = true := by with_unfolding_all rfl) (hs : swapsWith (.List es pos') (some (.Name x px)) pos.line env = pure false := by with_unfolding_all rfl) :
  Ex1 W n env wr (.Assign [.Name x px] (.List es pos') pos) σ Φ := Ex1.list hw (Evs.sz hz h) hn hs
theorem CallS.of {f : Value} {ps : List PV} {Ψ : PV → Sto → Prop} (h : CallP W n (.val f) ps (KAt Ψ σ)) : CallS W n env wr f ps σ Ψ := fun A N K G s vs R S rv =>
 fV S (PH.Le.refl _) (h A _ G s f vs R S.hp (rfl) rv) fun _ x => x
theorem SubS.of {v i : Expr} {p q : PV} {Ψ : PV → Sto → Prop} (h : SubP W n v i p q (KAt Ψ σ)) : SubS W n env wr v i p q σ Ψ := fun A N K G s a b R S ra rb =>
 fV S (PH.Le.refl _) (h A _ G s a b R S.hp ra rb) fun _ x => x
theorem CmpS.of {op : CmpOp} {p q : PV} {Ψ : PV → Sto → Prop} (h : CmpP W n op p q (KAt Ψ σ)) : CmpS W n env wr op p q σ Ψ := fun A N K G s a b R S ra rb =>
 fV S (PH.Le.refl _) (h A _ G s a b R S.hp ra rb) fun _ x => x
theorem MethS.of {name : Str} {p : PV} {f : Value} (h : MethT W name p f) : MethS W env wr name p σ f := fun A N K G s v pl Q S r q => h A _ G s v pl Q S.hp r q
theorem Ev.callG {x : Str} {f : Value} {es : List Expr} {px pos : Pos} {Ψ : PV → Sto → Prop} (hv : W.Top x f) (hk : KeepOk W f) (h : Evs W n env wr es σ fun ps σ₂ => CallP W n (.val f) ps fun r => Ψ r σ₂)
  (hg : env.kindOf x = some .globalImplicit := by with_unfolding_all rfl) (hb : env.builtins = builtinsNs := by with_unfolding_all rfl) (hn : noStar es = true := by with_unfolding_all rfl) (hd : (x == ("__debug__" : Str)) = false := by decide)
  (he : eval (.Call (.Name x px) es [] pos) env = (do callWith pos (← eval (.Name x px) env) [] (backTo pos (starEach es env)) (backToKw pos (keywordEach [] env))) := by with_unfolding_all rfl) : Ev W n env wr (.Call (.Name x px) es [] pos) σ Ψ :=
 Ev.call (Ev.glob hg hb hv (i1_3 f rfl hk h) hd) hn he
theorem Ev.callGS {x : Str} {f : Value} {es : List Expr} {px pos : Pos} {Ψ : PV → Sto → Prop} (hv : W.Top x f) (hk : KeepOk W f) (h : Evs W n env wr es σ (KCall W n env wr f Ψ))
  (hg : env.kindOf x = some .globalImplicit := by with_unfolding_all rfl) (hb : env.builtins = builtinsNs := by with_unfolding_all rfl) (hn : noStar es = true := by with_unfolding_all rfl) (hd : (x == ("__debug__" : Str)) = false := by decide)
  (he : eval (.Call (.Name x px) es [] pos) env = (do callWith pos (← eval (.Name x px) env) [] (backTo pos (starEach es env)) (backToKw pos (keywordEach [] env))) := by with_unfolding_all rfl) : Ev W n env wr (.Call (.Name x px) es [] pos) σ Ψ :=
 Ev.callS (Ev.glob hg hb hv (i1_3 f rfl hk h) hd) hn he
end
section
variable {W : Wd} {n : Nat}
theorem fmodN {a b : Nat} : ((a : Int).fmod (b : Int)) = ((a % b : Nat) : Int) := by rw [Int.fmod_eq_emod_of_nonneg _ (by with_reducible exact Om.negLe (by decide))]; rfl
theorem fdivN {a b : Nat} : ((a : Int).fdiv (b : Int)) = ((a / b : Nat) : Int) := by rw [Int.fdiv_eq_ediv_of_nonneg _ (by with_reducible exact Om.negLe (by decide))]; rfl
theorem BinP.modN {a b : Nat} {Ψ : PV → Prop} (hb : b ≠ 0) (h : Ψ (.int ((a % b : Nat) : Int))) : BinP W n .Mod (.int (a : Int)) (.int (b : Int)) Ψ := BinP.modI (by omega) (by rw [fmodN]; exact h)
theorem BinP.divN {a b : Nat} {Ψ : PV → Prop} (hb : b ≠ 0) (hs : (b : Int).natAbs.log2 < 9000) (h : Ψ (.int ((a / b : Nat) : Int))) : BinP W n .FloorDiv (.int (a : Int)) (.int (b : Int)) Ψ := BinP.divI (by omega) hs (by rw [fdivN]; exact h)
theorem BinP.m8 {a : Nat} {Ψ : PV → Prop} (h : Ψ (.int ((a % 8 : Nat) : Int))) : BinP W n .Mod (.int (a : Int)) (.int 8) Ψ := BinP.modN (b := 8) (by decide) h
theorem BinP.m14 {a : Nat} {Ψ : PV → Prop} (h : Ψ (.int ((a % 14 : Nat) : Int))) : BinP W n .Mod (.int (a : Int)) (.int 14) Ψ := BinP.modN (b := 14) (by decide) h
theorem BinP.m13 {a : Nat} {Ψ : PV → Prop} (h : Ψ (.int ((a % 13 : Nat) : Int))) : BinP W n .Mod (.int (a : Int)) (.int 13) Ψ := BinP.modN (b := 13) (by decide) h
theorem BinP.m12 {a : Nat} {Ψ : PV → Prop} (h : Ψ (.int ((a % 12 : Nat) : Int))) : BinP W n .Mod (.int (a : Int)) (.int 12) Ψ := BinP.modN (b := 12) (by decide) h
theorem BinP.m3 {a : Nat} {Ψ : PV → Prop} (h : Ψ (.int ((a % 3 : Nat) : Int))) : BinP W n .Mod (.int (a : Int)) (.int 3) Ψ := BinP.modN (b := 3) (by decide) h
theorem BinP.m40 {a : Nat} {Ψ : PV → Prop} (h : Ψ (.int ((a % 40 : Nat) : Int))) : BinP W n .Mod (.int (a : Int)) (.int 40) Ψ := BinP.modN (b := 40) (by decide) h
theorem BinP.m6 {a : Nat} {Ψ : PV → Prop} (h : Ψ (.int ((a % 6 : Nat) : Int))) : BinP W n .Mod (.int (a : Int)) (.int 6) Ψ := BinP.modN (b := 6) (by decide) h
theorem BinP.m2 {a : Nat} {Ψ : PV → Prop} (h : Ψ (.int ((a % 2 : Nat) : Int))) : BinP W n .Mod (.int (a : Int)) (.int 2) Ψ := BinP.modN (b := 2) (by decide) h
theorem BinP.m1000000 {a : Nat} {Ψ : PV → Prop} (h : Ψ (.int ((a % 1000000 : Nat) : Int))) : BinP W n .Mod (.int (a : Int)) (.int 1000000) Ψ := BinP.modN (b := 1000000) (by decide) h
theorem BinP.d14 {a : Nat} {Ψ : PV → Prop} (h : Ψ (.int ((a / 14 : Nat) : Int))) : BinP W n .FloorDiv (.int (a : Int)) (.int 14) Ψ := BinP.divN (b := 14) (by decide) (by decide) h
theorem BinP.d182 {a : Nat} {Ψ : PV → Prop} (h : Ψ (.int ((a / 182 : Nat) : Int))) : BinP W n .FloorDiv (.int (a : Int)) (.int 182) Ψ := BinP.divN (b := 182) (by decide) (by decide) h
theorem BinP.d6 {a : Nat} {Ψ : PV → Prop} (h : Ψ (.int ((a / 6 : Nat) : Int))) : BinP W n .FloorDiv (.int (a : Int)) (.int 6) Ψ := BinP.divN (b := 6) (by decide) (by decide) h
theorem BinP.d3 {a : Nat} {Ψ : PV → Prop} (h : Ψ (.int ((a / 3 : Nat) : Int))) : BinP W n .FloorDiv (.int (a : Int)) (.int 3) Ψ := BinP.divN (b := 3) (by decide) (by decide) h
theorem BinP.d7 {a : Nat} {Ψ : PV → Prop} (h : Ψ (.int ((a / 7 : Nat) : Int))) : BinP W n .FloorDiv (.int (a : Int)) (.int 7) Ψ := BinP.divN (b := 7) (by decide) (by decide) h
theorem BinP.d5 {a : Nat} {Ψ : PV → Prop} (h : Ψ (.int ((a / 5 : Nat) : Int))) : BinP W n .FloorDiv (.int (a : Int)) (.int 5) Ψ := BinP.divN (b := 5) (by decide) (by decide) h
theorem BinP.d18 {a : Nat} {Ψ : PV → Prop} (h : Ψ (.int ((a / 18 : Nat) : Int))) : BinP W n .FloorDiv (.int (a : Int)) (.int 18) Ψ := BinP.divN (b := 18) (by decide) (by decide) h
theorem BinP.d9 {a : Nat} {Ψ : PV → Prop} (h : Ψ (.int ((a / 9 : Nat) : Int))) : BinP W n .FloorDiv (.int (a : Int)) (.int 9) Ψ := BinP.divN (b := 9) (by decide) (by decide) h
theorem BinP.d2 {a : Nat} {Ψ : PV → Prop} (h : Ψ (.int ((a / 2 : Nat) : Int))) : BinP W n .FloorDiv (.int (a : Int)) (.int 2) Ψ := BinP.divN (b := 2) (by decide) (by decide) h
theorem BinP.d64 {a : Nat} {Ψ : PV → Prop} (h : Ψ (.int ((a / 64 : Nat) : Int))) : BinP W n .FloorDiv (.int (a : Int)) (.int 64) Ψ := BinP.divN (b := 64) (by decide) (by decide) h
theorem CmpP.ltN {a b : Nat} {Ψ : PV → Prop} (h : Ψ (.bool (decide (a < b)))) : CmpP W n .Lt (.int (a : Int)) (.int (b : Int)) Ψ := CmpP.ltI (by rw [show decide ((a : Int) < (b : Int)) = decide (a < b) from decide_eq_decide.mpr (by omega)]; exact h)
theorem CmpP.gtN {a b : Nat} {Ψ : PV → Prop} (h : Ψ (.bool (decide (b < a)))) : CmpP W n .Gt (.int (a : Int)) (.int (b : Int)) Ψ := CmpP.gtI (by rw [show decide ((b : Int) < (a : Int)) = decide (b < a) from decide_eq_decide.mpr (by omega)]; exact h)
theorem CmpP.geN {a b : Nat} {Ψ : PV → Prop} (h : Ψ (.bool (decide (b ≤ a)))) : CmpP W n .GtE (.int (a : Int)) (.int (b : Int)) Ψ := CmpP.geI (by rw [show decide ((b : Int) ≤ (a : Int)) = decide (b ≤ a) from decide_eq_decide.mpr (by omega)]; exact h)
theorem CmpP.eqN {a b : Nat} {Ψ : PV → Prop} (h : Ψ (.bool (decide (a = b)))) : CmpP W n .Eq (.int (a : Int)) (.int (b : Int)) Ψ := CmpP.eqI (by rw [show ((a : Int) == (b : Int)) = decide (a = b) from by rw [Bool.eq_iff_iff, beq_iff_eq, decide_eq_true_iff]; omega]; exact h)
theorem CmpP.neN {a b : Nat} {Ψ : PV → Prop} (h : Ψ (.bool (!decide (a = b)))) : CmpP W n .NotEq (.int (a : Int)) (.int (b : Int)) Ψ := CmpP.neI (by rw [show ((a : Int) != (b : Int)) = !decide (a = b) from by unfold bne; congr 1; rw [Bool.eq_iff_iff, beq_iff_eq, decide_eq_true_iff]; omega]; exact h)
theorem BinP.addN {a b : Nat} {Ψ : PV → Prop} (h : Ψ (.int ((a + b : Nat) : Int))) : BinP W n .Add (.int (a : Int)) (.int (b : Int)) Ψ := BinP.addI (by rw [← Int.natCast_add]; exact h)
theorem BinP.addN1 {a : Nat} {Ψ : PV → Prop} (h : Ψ (.int ((a + 1 : Nat) : Int))) : BinP W n .Add (.int (a : Int)) (.int 1) Ψ := BinP.addN (b := 1) h
theorem IopP.addN {a b : Nat} {Ψ : PV → Prop} (h : Ψ (.int ((a + b : Nat) : Int))) : IopP W n .Add (.int (a : Int)) (.int (b : Int)) Ψ := IopP.addI (by rw [← Int.natCast_add]; exact h)
end
section
variable {W : Wd} {n : Nat} {env : Env} {wr : List Str} {σ : Sto}
def lit (s : String) : List Nat := (Str.ofString s).cps.toList
def S (l : List Nat) : Str := ⟨l.toArray⟩
theorem S_inj {a b : List Nat} (h : S a = S b) : a = b := by
 have := congrArg (fun s => s.cps.toList) h
 simpa [S] using this
theorem S_app (a b : List Nat) : S a ++ S b = S (a ++ b) := Str.ext' (by rw [Str.cps_append]; simp [S])
theorem S_len (a : List Nat) : (S a).length = a.length := by simp [S, Str.length]
theorem S_beq (a b : List Nat) : (S a == S b) = (a == b) := by
 rw [Bool.eq_iff_iff, beq_iff_eq, beq_iff_eq]; exact ⟨S_inj, congrArg S⟩
theorem BinP.addSL {a b : List Nat} {Ψ : PV → Prop} (hs : a.length + b.length ≤ 65536) (h : Ψ (.str (S (a ++ b)))) : BinP W n .Add (.str (S a)) (.str (S b)) Ψ :=
 BinP.addS (by rw [S_len, S_len]; exact Nat.le_trans hs (by decide)) (by rw [S_app]; exact h)
theorem S_list (l : List Nat) : (S l).cps.toList = l := by simp [S]
theorem SubP.cutS {v i : Expr} {l : List Nat} {lo hi : Option Nat} {Ψ : PV → Prop} (hs : l.length ≤ 65536) (h : Ψ (.str (S (cut l lo hi)))) : SubP W n v i (.str (S l)) (.obj "slice" [partPV lo, partPV hi, .none]) Ψ :=
 SubP.strCut (by rw [S_len]; exact Nat.le_trans hs (by decide)) (by unfold scut; rw [S_list]; exact h)
theorem SubP.strS {v i : Expr} {l : List Nat} {k c : Nat} {Ψ : PV → Prop} (hx : l[k]? = some c) (h2 : k < 65536) (h : Ψ (.str (S [c]))) : SubP W n v i (.str (S l)) (.int (k : Int)) Ψ :=
 SubP.str (by simpa [S] using hx) (by with_reducible exact Om.castLt (by assumption) (by decide)) h
theorem CmpP.neSL {a b : List Nat} {Ψ : PV → Prop} (h : Ψ (.bool (a != b))) : CmpP W n .NotEq (.str (S a)) (.str (S b)) Ψ := CmpP.neS (by unfold bne at h ⊢; rw [S_beq]; exact h)
theorem CmpP.eqSL {a b : List Nat} {Ψ : PV → Prop} (h : Ψ (.bool (a == b))) : CmpP W n .Eq (.str (S a)) (.str (S b)) Ψ := CmpP.eqS (by rw [S_beq]; exact h)
theorem Ev.cstrL {s : String} {k : Nat} {pos : Pos} {Ψ : PV → Sto → Prop} (h : Ψ (.str (S (lit s))) σ) : Ev W n env wr (.Constant (.str (Str.ofString s)) k pos) σ Ψ := Ev.cstr h
end
end Mine
end
section
open PySem PySem.W PyProof.Rows
namespace Mine
namespace Re
open Sre
theorem forIn_rule {Mo : Model} {A : Around} {E : Value → Shared → Prop} {s : Shared} {c : Nat → Bool} {t : Nat → String} {Q : PUnit → Shared → Prop} (h : Q ⟨⟩ s) : ∀ l : List Nat,
  wpAny Mo A (forIn l PUnit.unit fun i _ => if c i = true then (do rule (t i); pure (ForInStep.yield PUnit.unit)) else pure (ForInStep.yield PUnit.unit)) Q E s
 | [] => wpAny_pure h
 | i :: l => by
  rw [List.forIn_cons]
  cases c i
  ·exact wpAny_bind (wpAny_pure (forIn_rule h l))
  ·exact wpAny_bind (wpAny_bind (wpAny_rule (wpAny_pure (forIn_rule h l))))
theorem toEnd {Mo : Model} {A : Around} {E : Value → Shared → Prop} {s : Shared} {Q : Option M → Shared → Prop} {m : M} (k : Nat) (hk : k ≤ 4 * 2 ^ 64)
  (h : (fun m' : M => (m'.outcome = some .matched ∧ Q (some m') s) ∨ (m'.outcome = some .failed ∧ Q none s)) (it k m)) : wpAny Mo A (Builtin.Re.reRunToEnd m) Q E s := by
 unfold Builtin.Re.reRunToEnd
 refine wpAny_bind (drive (2 ^ 64) k m ?_ hk (by decide) ?_)
 ·rcases h with h | h <;> rw [h.1] <;> rfl
 ·refine wpAny_bind (forIn_rule ?_ _)
  generalize it k m = m' at h
  rcases h with h | h <;> rw [h.1] <;> exact wpAny_pure h.2
def Bs (l : List Nat) : Array UInt8 := (l.map Nat.toUInt8).toArray
theorem Bs_app (a b : List Nat) : Bs a ++ Bs b = Bs (a ++ b) := by simp [Bs]
theorem Bs_size (a : List Nat) : (Bs a).size = a.length := by simp [Bs]
theorem Bs_nat {l : List Nat} (h : ∀ x ∈ l, x < 256) : (Bs l).map (·.toNat) = l.toArray := by
 apply Array.toList_inj.mp
 simp only [Bs, List.map_toArray, List.map_map]
 induction l with
 | nil => rfl
 | cons a l ih =>
  have h1 : (a.toUInt8).toNat = a := by
   have := h a (by simp)
   simp [Nat.toUInt8, UInt8.toNat_ofNat']; assumption
  have := ih fun x hx => h x (List.mem_cons_of_mem _ hx)
  simp only [List.map_cons, Function.comp, h1]
  rw [show List.map ((fun x => x.toNat) ∘ Nat.toUInt8) l = l from this]
theorem forIn_up {Mo : Model} {A : Around} {E : Value → Shared → Prop} {β : Type} (f : Nat → β → Sem (ForInStep β)) (I : Nat → β → Shared → Prop) (Q : β → Shared → Prop) :
  ∀ (n k : Nat) (b : β) (s : Shared), I k b s → (∀ i b s, k ≤ i → i < k + n → I i b s → wpAny Mo A (f i b) (fun r s' => ∃ b', r = .yield b' ∧ I (i + 1) b' s') E s) → (∀ b s, I (k + n) b s → Q b s) →
   wpAny Mo A (forIn (List.range' k n) b f) Q E s
 | 0, k, b, s, h, _, hf => wpAny_pure (hf b s h)
 | n + 1, k, b, s, h, hs, hf => by
  rw [List.range'_succ, List.forIn_cons]
  refine wpAny_bind (wpAny_mono (hs k b s (Nat.le_refl _) (by exact Nat.lt_succ_of_le (Nat.le_add_right _ _)) h) (fun r s' zz => o1_2 zz fun b' e h' => ?_) fun _ _ x => x)
  subst e
  exact forIn_up f I Q n (k + 1) b' s' h' (fun i b s h1 h2 hi => hs i b s (by exact Nat.le_of_succ_le (by assumption)) (by omega) hi) (fun b s hb => hf b s (by rw [show k + (n + 1) = k + 1 + n by simp only [Nat.add_comm, Nat.add_left_comm, Nat.add_assoc]]; exact hb))
def bVal (x : List Nat × Tok) : Value := .bytes (Bs x.1) x.2
theorem joinLetGo_wp {Mo : Model} {A : Around} {E : Value → Shared → Prop} {s : Shared} {Q : Unit → Shared → Prop} {keep : List Value} (h : Q () s) : ∀ l : List (List Nat × Tok),
  wpAny Mo A (Builtin.Bytes.joinLetGo (l.map fun x => (bVal x, none)) keep) Q E s
 | [] => wpAny_pure h
 | x :: l => by
  show wpAny Mo A (letGo _ _ >>= fun _ => Builtin.Bytes.joinLetGo (l.map fun x => (bVal x, none)) keep) Q E s
  exact wpAny_bind (wpAny_letGo (joinLetGo_wp h l))
theorem takeBuf {id : String} (x : List Nat × Tok) : Builtin.Bytes.takeBufferQuiet? id (bVal x) 0 = pure (some (Bs x.1, none)) := by
 have e : Builtin.Bytes.takeBuffer? id (bVal x) 0 = pure (some (Bs x.1, none)) := by
  unfold Builtin.Bytes.takeBuffer? bVal
  rw [KBy.special_eq KBy.look_buffer, KBy.own_buffer]
  show (do let r ← Builtin.Bytes.buffer? id (.bytes (Bs x.1) x.2) (full := false); pure (r.map (·, none))) = _
  rw [KBy.buffer_eq]
  rfl
 unfold Builtin.Bytes.takeBufferQuiet?
 rw [e]; rfl
theorem joined_go (ls : List (List Nat)) : ∀ (k : Nat) (acc : Array UInt8), ((ls.map Bs).zipIdx k).foldl (fun out (x : Array UInt8 × Nat) => (if x.2 > 0 then out ++ #[] else out) ++ x.1) acc = acc ++ Bs ls.flatten := by
 induction ls with
 | nil => intro k acc; simp [Bs]
 | cons l ls ih =>
  intro k acc
  rw [List.map_cons, List.zipIdx_cons, List.foldl_cons, ih]
  have : (if k > 0 then acc ++ #[] else acc) = acc := by split <;> simp
  show (if k > 0 then acc ++ #[] else acc) ++ Bs l ++ Bs ls.flatten = _
  rw [this, List.flatten_cons, ← Bs_app, Array.append_assoc]
theorem joined_nil (ls : List (List Nat)) : Builtin.Bytes.joined #[] (ls.map Bs) = Bs ls.flatten := by
 have := joined_go ls 0 #[]
 rw [Array.empty_append] at this
 exact this
theorem joinFold (ls : List (List Nat)) : ∀ a, (ls.map Bs).toArray.foldl (fun (x1 : Nat) (x2 : Array UInt8) => x1 + x2.size) a = a + ls.flatten.length := by
 intro a
 rw [List.foldl_toArray]
 induction ls generalizing a with
 | nil => rfl
 | cons l ls ih => rw [List.map_cons, List.foldl_cons, ih, List.flatten_cons, List.length_append, Bs_size]; exact Nat.add_assoc _ _ _
theorem bjoin_body {prog : Program} {w : World} {A : Around} {E : Value → Shared → Prop} {s : Shared} {D : Addr} {t : Tok} {bs : List (List Nat × Tok)} {Q : PySem.Fin → Shared → Prop}
  (hD : s.heap.IsList D (bs.map bVal).toArray) (hz : (bs.map (·.1)).flatten.length ≤ 65536) (h : ∀ t' k, Q (.done (.ret (.bytes (Bs (bs.map (·.1)).flatten) t'))) { s with toks := k }) :
  wpAny (model prog w) A (Builtin.«bytes.join» ⟨[.bytes #[] t, .ref D], []⟩) Q E s := by
 refine o1_3 (id hD) fun o ho hc zz => ?_; refine o1_1 zz fun n hd => ?_; clear zz
 have hT : s.TypeIs (.ref D) "list" := hD.typeIs
 unfold Builtin.«bytes.join» Builtin.Bytes.joinM
 show wpAny _ A (Builtin.Bytes.joinItems (.ref D) >>= _) Q E s
 refine wpAny_bind ?_
 unfold Builtin.Bytes.joinItems
 refine wpAny_bind (wpAny_typeOf hT ?_)
 rw [if_pos (by rfl)]
 refine wpAny_pure (wpAny_bind (wpAny_seqItems ho hd ?_))
 have hlen : (bs.map bVal).toArray.size = bs.length := by simp
 rcases hb : bs with _ | ⟨b1, _ | ⟨b2, r⟩⟩
 case cons.nil =>
  refine (?_ : wpAny _ A (typeOf (bVal b1) >>= _) Q E s)
  refine wpAny_bind (wpAny_typeOf (show s.TypeIs (bVal b1) "bytes" from rfl) ?_)
  rw [if_pos (by rfl)]
  refine wpAny_bind (wpAny_rule (wpAny_pure ?_))
  have := h b1.2 s.toks
  rw [hb] at this
  have e : (List.map (fun x => x.fst) [b1]).flatten = b1.1 := by simp
  rw [e] at this
  exact this
 all_goals
  refine (?_ : wpAny _ A (forIn (m := Sem) (ρ := Std.Legacy.Range) (α := Nat) (β := Array (Array UInt8) × List (Value × Option Value)) [:_] (#[], []) _ >>= _) Q E s)
  rw [← hb]
  rw [Std.Legacy.Range.forIn_eq_forIn_range']
  refine wpAny_bind (forIn_up _ (fun i p s' => s' = s ∧ p = (((bs.take i).map fun x => Bs x.1).toArray, (bs.take i).map fun x => (bVal x, none))) _ _ _ _ _ ⟨rfl, by simp⟩ ?_ ?_)
  ·rintro i p s' h1 h2 ⟨rfl, rfl⟩
   have hi : i < bs.length := by simpa using h2
   refine wpAny_bind (wpAny_seqItems ho hd ?_)
   have hx : (bs.map bVal).toArray.getD i Value.none = bVal bs[i] := by simp [Array.getD, hi]
   have hon : (Builtin.Bytes.Kind.bytes == Builtin.Bytes.Kind.bytearray || ((bs.take i).map fun x => (bVal x, (none : Option Value))).any fun x => x.1.onHeap) = false := by
    rw [List.any_map]
    rw [show (Builtin.Bytes.Kind.bytes == Builtin.Bytes.Kind.bytearray) = false from rfl, Bool.false_or]
    rw [List.any_eq_false]; intro x hx; exact (fun q => by cases q)
   show wpAny _ A (if (Builtin.Bytes.Kind.bytes == Builtin.Bytes.Kind.bytearray || ((bs.take i).map fun x => (bVal x, (none : Option Value))).any fun x => x.1.onHeap) = true then _ else (holding _ (Builtin.Bytes.takeBufferQuiet? _ ((bs.map bVal).toArray.getD i Value.none) 0) >>= _)) _ E _
   rw [if_neg (by rw [hon]; decide), hx]
   refine wpAny_bind (wpAny_holding ?_)
   rw [takeBuf]
   refine wpAny_pure (wpAny_bind (wpAny_seqItems ho hd ?_))
   show wpAny _ A (if ((bs.map bVal).toArray.size != (bs.map bVal).toArray.size) = true then _ else _) _ E _
   rw [if_neg (by simp)]
   refine wpAny_pure (i1_3 _ rfl rfl ?_)
   have e : bs.take (i + 1) = bs.take i ++ [bs[i]] := by rw [List.take_add_one, List.getElem?_eq_getElem hi]; rfl
   rw [e]; simp only [List.map_append, List.map_cons, List.map_nil, List.push_toArray]
  ·rintro p s' ⟨rfl, rfl⟩
   have ht : bs.take (0 + (([: (bs.map bVal).toArray.size] : Std.Legacy.Range)).size) = bs := by simp [Std.Legacy.Range.size]
   rw [ht]
   refine wpAny_bind (wpAny_pure ?_)
   have hms : (bs.map fun x => Bs x.1) = (bs.map (·.1)).map Bs := by simp
   show wpAny _ A (if Builtin.Bytes.tooLong (Array.foldl (fun x1 x2 => x1 + x2.size) (0 * ((bs.map fun x => Bs x.1).toArray.size - 1)) (bs.map fun x => Bs x.1).toArray) = true then _ else (mkBytes (Builtin.Bytes.joined #[] (bs.map fun x => Bs x.1).toArray.toList) >>= _)) Q E _
   rw [hms, joinFold, if_neg (by unfold Builtin.Bytes.tooLong; rw [Nat.zero_mul, Nat.zero_add, sizeLine_eq, decide_eq_true_eq]; omega)]
   rw [joined_nil]
   refine wpAny_bind (wpAny_mkBytes ?_ (by rw [Bs_size, sizeLine_eq]; with_reducible exact Nat.le_trans (by assumption) (by decide)))
   refine wpAny_bind (wpAny_holding (wpAny_point (wpAny_bind (joinLetGo_wp ?_ bs))))
   exact wpAny_pure (h _ _)
end Re
end Mine
end
section
open PySem PySem.W PyProof.Rows
namespace Mine
namespace Re
open Sre
theorem named (a b : Value) : Builtin.Re.reNamed "re.Pattern.sub" "sub" ["repl", "string", "count"] 2 [a, b] [] = pure [some a, some b, none] := by kernel_rfl
theorem no_call_str : typeLookup (.type "str") "__call__" = pure none := by rw [typeLookup_type, builtinLookup_eq_fast]; kernel_rfl
theorem no_call_bytes : typeLookup (.type "bytes") "__call__" = pure none := by rw [typeLookup_type, builtinLookup_eq_fast]; kernel_rfl
def TVal (b : Bool) (l : List Nat) (t : Tok) : Value := if b then .bytes (Bs l) t else .str (S l) t
def kindN (b : Bool) : Nat := if b then 1 else 0
def TOk (b : Bool) (l : List Nat) : Prop := b = true → ∀ x ∈ l, x < 256
inductive PatE (h : Heap) (P : Addr) (code : Array Nat) (b : Bool) : Prop where
 | mk : ∀ o pat fl gi ig T t1 t2, h.get? P = some o → o.cls = .type "re.Pattern" → o.dict = none → o.data = .fields #[pat, fl, .int 0 t1, gi, ig, .ref T, .int (kindN b : Nat) t2] →
  ∀ oT vs n, h.get? T = some oT → oT.data = .seq vs n → (vs.map Builtin.Re.reRawOf = code.map fun (x : Nat) => (x : Int)) → PatE h P code b
structure PatOb (h : Heap) (P : Addr) (code : Array Nat) (b : Bool) : Prop where
 ob : PatE h P code b
theorem PatOb.same {h h' : Heap} {P : Addr} {code : Array Nat} {b : Bool} (x : PatOb h P code b) {h₀ : Heap} (hk : HLeF h h') : PatOb h' P code b := by
 obtain ⟨o, pat, fl, gi, ig, T, t1, t2, e1, e2, e3, e4, oT, vs, nT, e5, e6, e7⟩ := x.ob
 exact ⟨o, pat, fl, gi, ig, T, t1, t2, hk _ _ e1, e2, e3, e4, oT, vs, nT, hk _ _ e5, e6, e7⟩
theorem textOf {b : Bool} {l : List Nat} {t : Tok} (hl : TOk b l) : Builtin.Re.reTextOf (TVal b l t) = pure (l.toArray, kindN b) := by
 cases b
 ·rfl
 ·have e : Builtin.Re.reTextOf (.bytes (Bs l) t) = (do match ← Builtin.Bytes.bufferQuiet? "_sre" (.bytes (Bs l) t) with
   | some b => pure (b.map (·.toNat), 1)
   | none => do raiseError "TypeError" s!"expected string or bytes-like object, got '{← PySem.typeNameOf (.bytes (Bs l) t)}'") := rfl
  show Builtin.Re.reTextOf (.bytes (Bs l) t) = _
  rw [e, KBy.quiet_eq]
  show (pure ((Bs l).map (·.toNat), 1) : Sem (Array Nat × Nat)) = _
  rw [Bs_nat (hl rfl)]; rfl
theorem noColl {b : Bool} {l : List Nat} {t : Tok} : Builtin.Re.reNoCollectionInside (TVal b l t) (kindN b) = pure () := by
 cases b
 ·rfl
 ·show (isInstance (.bytes (Bs l) t) (.type "bytes") >>= _) = _
  rw [KBy.isInstance_eq]; rfl
theorem litOk {b : Bool} {l : List Nat} {t : Tok} : Builtin.Re.reLiteralCannotBeTurned (TVal b l t) = pure () := by
 cases b
 ·rfl
 ·unfold Builtin.Re.reLiteralCannotBeTurned
  show ((do if (none : Option Str).isNone then if !(← isInstance (.bytes (Bs l) t) (.type "bytes")) then noCollectionInside "_sre:a-collection-may-fall-inside-the-match-while-a-literal-replacement-can-be-written") : Sem Unit) = _
  rw [KBy.isInstance_eq]; rfl
section
variable {prog : Program} {w : World} {A : Around} {E : Value → Shared → Prop} {s : Shared} {P : Addr} {code : Array Nat} {b : Bool} {l : List Nat} {t : Tok}
theorem target {Q : Builtin.Re.ReTarget → Shared → Prop} (hP : PatOb s.heap P code b) (hl : TOk b l)
  (h : Q { pattern := .ref P, string := TVal b l t, code, text := l.toArray, kind := kindN b, groups := 0, pos := 0, lim := l.toArray.size } s) : wpAny (model prog w) A (Builtin.Re.reWholeTarget (.ref P) (TVal b l t)) Q E s := by
 obtain ⟨o, pat, fl, gi, ig, T, t1, t2, e1, e2, e3, e4, oT, vs, nT, e5, e6, e7⟩ := hP.ob
 unfold Builtin.Re.reWholeTarget
 refine wpAny_bind (wpAny_fieldsOf e1 e4 ?_)
 rw [textOf hl]
 show wpAny _ A (if (kindN b == 0 && kindN b == 1) = true then _ else (if (kindN b == 1 && kindN b == 0) = true then _ else (Builtin.Re.reNoCollectionInside (TVal b l t) (kindN b) >>= _))) Q E s
 rw [if_neg (by cases b <;> decide), if_neg (by cases b <;> decide), noColl]
 show wpAny _ A (Builtin.Re.reRawItems (.ref T) >>= _) Q E s
 refine wpAny_bind ?_
 unfold Builtin.Re.reRawItems
 refine wpAny_bind (wpAny_seqItems e5 e6 (wpAny_pure (wpAny_pure ?_)))
 have : ((((some vs).getD #[]).map Builtin.Re.reRawOf).map fun (x : Int) => x.toNat) = code := by
  show (vs.map Builtin.Re.reRawOf).map (·.toNat) = code
  rw [e7, Array.map_map]
  apply Array.toList_inj.mp
  rw [Array.toList_map, show ((fun x => x.toNat) ∘ fun (x : Nat) => (x : Int)) = id from rfl, List.map_id]
 rw [this]
 exact h
theorem slice {Q : Value → Shared → Prop} {i j : Nat} (hz : l.length ≤ 65536) (h : ∀ t', Q (TVal b ((l.drop i).take (j - i)) t') { s with toks := t' + 1 }) :
  wpAny (model prog w) A (Builtin.Re.reSlice l.toArray (kindN b) i j) Q E s := by
 have e : l.toArray.extract i j = ((l.drop i).take (j - i)).toArray := by simp [List.extract_toArray, List.extract_eq_take_drop]
 have hz' : ((l.drop i).take (j - i)).length ≤ 65536 := by rw [List.length_take, List.length_drop]; exact Nat.le_trans (Nat.min_le_right _ _) (Nat.le_trans (Nat.sub_le _ _) hz)
 cases b
 ·show wpAny _ A (mkStr ⟨l.toArray.extract i j⟩) Q E s
  rw [e]
  exact wpAny_mkStr (h s.toks) (by show (S _).length ≤ _; rw [S_len, sizeLine_eq]; with_reducible exact Nat.le_trans (by assumption) (by decide))
 ·show wpAny _ A (mkBytes ((l.toArray.extract i j).map (·.toUInt8))) Q E s
  rw [e]
  have e2 : ((l.drop i).take (j - i)).toArray.map (·.toUInt8) = Bs ((l.drop i).take (j - i)) := by simp [Bs]
  rw [e2]
  exact wpAny_mkBytes (h s.toks) (by rw [Bs_size, sizeLine_eq]; with_reducible exact Nat.le_trans (by assumption) (by decide))
end
theorem strJoin_nil : ∀ ls : List (List Nat), Str.join (S []) (ls.map S) = S ls.flatten
 | [] => rfl
 | [x] => by simp [Str.join]
 | x :: y :: r => by
  have h := strJoin_nil (y :: r)
  show S x ++ S [] ++ Str.join (S []) ((y :: r).map S) = _
  rw [h, S_app, S_app]; simp
theorem txt_join (ls : List (List Nat)) : Txt.join (S []) (ls.map S) = S ls.flatten := by
 show Builtin.Str.glued _ _ = _
 rw [StrLaws.glued_eq_join]; exact strJoin_nil ls
theorem joinOk_S {ls : List (List Nat)} (h : ls.flatten.length ≤ 65536) : JoinOk (S []) (ls.map S) = true := by
 unfold JoinOk
 rw [StrLaws.joinTotal, List.map_map]
 have e : ls.map ((fun x : Str => x.length) ∘ S) = ls.map List.length := List.map_congr_left fun x _ => S_len x
 rw [e, ← List.length_flatten, S_len]
 unfold Builtin.Str.tooLong
 rw [sizeLine_eq, Bool.not_eq_true', decide_eq_false_iff_not, List.length_nil]
 omega
section
variable {prog : Program} {w : World} {A : Around} {E : Value → Shared → Prop} {P : Addr} {code : Array Nat} {b : Bool} {l r : List Nat} {t tr : Tok}
theorem joinT {s : Shared} {D : Addr} {ps : List (List Nat × Tok)} {Q : Value → Shared → Prop} (hD : s.heap.IsList D (ps.map fun x => TVal b x.1 x.2).toArray) (hz : (ps.map (·.1)).flatten.length ≤ 65536)
  (h : ∀ t' k, Q (TVal b (ps.map (·.1)).flatten t') { s with toks := k }) : wpAny (model prog w) A (call (.builtin (if kindN b == 0 then "str.join" else "bytes.join")) [TVal b [] t, .ref D]) Q E s := by
 cases b
 ·show wpAny _ A (call (.builtin "str.join") [.str (S []) t, .ref D]) Q E s
  have e1 : (ps.map fun x => TVal false x.1 x.2) = strValues (ps.map fun x => (S x.1, x.2)) := by unfold strValues; rw [List.map_map]; rfl
  have e2 : (ps.map fun x => (S x.1, x.2)).map (·.1) = (ps.map (·.1)).map S := by rw [List.map_map, List.map_map]; rfl
  rw [e1] at hD
  exact SC.join hD e2 (joinOk_S hz) fun t' k => by rw [txt_join]; exact h t' k
 ·show wpAny _ A (call (.builtin "bytes.join") [.bytes #[] t, .ref D]) Q E s
  refine wpAny_call (codeAny_call_builtin FR.slot_bjoin.plain FR.entry_bjoin (FR.slot_bjoin.check _ _ _ _ _ _ _ _ (show s.TypeIs (.bytes #[] t) "bytes" from rfl) (FR.args_bjoin_2 _ _) ?_))
  exact bjoin_body (bs := ps) hD hz fun t' k => h t' k
theorem push_wp {s : Shared} {h0 : Heap} {D : Addr} {xs : Array Value} {v : Value} {Q : Unit → Shared → Prop} (hD : s.heap.IsList D xs) (hn : h0.get? D = none) (hk : HLeF h0 s.heap) (hz : xs.size ≤ 1048576)
  (h : ∀ h', h'.IsList D (xs.push v) → HLeF h0 h' → Q () { s with heap := h' }) : wpAny (model prog w) A (updateSeq D (·.push v)) Q E s := by
 refine o1_3 hD fun za ho hc zz => ?_; clear hD; obtain ⟨c, d, dt, sl⟩ := za; refine o1_1 zz fun n hd => ?_; clear zz
 simp only at hd hc; subst hd; subst hc
 refine wpAny_updateSeq ho rfl (h _ ⟨_, Heap.get?_update_self _ ho rfl, rfl, _, rfl⟩ fun a o' e => ?_) (by rw [sizeLine_eq]; with_reducible exact Nat.le_trans (by assumption) (by decide)) (by rw [Array.size_push, sizeLine_eq]; exact Nat.le_trans (Nat.succ_le_succ (by assumption)) (by decide))
 rw [Heap.get?_update_ne]
 ·exact hk _ _ e
 ·intro q; rw [q, hn] at e; cases e
theorem loop {out : Nat → List Nat} {h0 : Heap} {g : Array GenState} {d : Drawn} {os : OsState} {D : Addr} {R : Result → Shared → Prop}
  (hP : PatOb h0 P code b) (hl : TOk b l) (hz : l.length ≤ 65536) (hn : h0.get? D = none) (ho : (out 0).length ≤ 65536)
  (hs : ∀ p, p ≤ l.length → ∃ k, k ≤ 4 * 2 ^ 64 ∧ ((∃ a e, p ≤ a ∧ a < e ∧ e ≤ l.length ∧ out p = (l.drop p).take (a - p) ++ r ++ out e ∧ Won a e (it k (forSearch code l.toArray 0 p l.toArray.size false))) ∨ (out p = l.drop p ∧ Lost (it k (forSearch code l.toArray 0 p l.toArray.size false)))))
  (hR : ∀ h' tk t', HLeF h0 h' → R (.ok (.ret (TVal b (out 0) t'))) ⟨h', g, d, tk, os⟩) :
  ∀ (fuel p : Nat) (n : Int) (h : Heap) (tk : Nat) (ps : List (List Nat × Tok)), l.length - p < fuel → p ≤ l.length → h.IsList D (ps.map fun x => TVal b x.1 x.2).toArray → HLeF h0 h → ps.length ≤ 2 * p → (ps.map (·.1)).flatten ++ out p = out 0 →
   codeAny (model prog w) A (.builtin "re.Pattern.sub.loop" ⟨[.ref P, TVal b l t, TVal b r tr, rawInt 0, rawInt 0, rawInt n, rawInt p, rawInt p, .bool false, .ref D, .bool false], []⟩) R ⟨h, g, d, tk, os⟩ := by
 intro fuel
 induction fuel with
 | zero => intro p n h tk ps hf; exact absurd (by assumption) (Nat.not_lt_zero _)
 | succ fuel ih =>
  intro p n h tk ps hf hp hD hk hps hout
  have hal : ∀ ps : List (List Nat × Tok), ((ps.map fun x => TVal b x.1 x.2).toArray).size = ps.length := fun ps => by simp
  have hap : ∀ (ps : List (List Nat × Tok)) (x : List Nat × Tok), ((ps.map fun x => TVal b x.1 x.2).toArray).push (TVal b x.1 x.2) = ((ps ++ [x]).map fun x => TVal b x.1 x.2).toArray := fun ps x => by simp
  refine codeAny_builtin FR.entry_loop ?_
  refine wpAny_bind (target (hP.same (h₀ := h0) hk) hl ?_)
  show wpAny _ _ (Builtin.Re.reLiteralCannotBeTurned (TVal b r tr) >>= _) _ _ _
  rw [litOk]
  refine wpAny_bind (wpAny_pure ?_)
  refine o1_2 (hs p hp) fun k hk4 hs' => ?_
  show wpAny _ _ (Builtin.Re.reRunToEnd (forSearch code l.toArray 0 p l.toArray.size false) >>= _) _ _ _
  refine wpAny_bind (toEnd k hk4 ?_)
  generalize it k (forSearch code l.toArray 0 p l.toArray.size false) = m at hs'
  rcases hs' with ⟨a, e, h1, h2, h3, h4, w1, w2, w3⟩ | ⟨h1, h2⟩
  ·refine .inl ⟨w1, ?_⟩
   subst w2 w3
   have item : ∀ (h : Heap) (tk : Nat) (ps : List (List Nat × Tok)), h.IsList D (ps.map fun x => TVal b x.1 x.2).toArray → HLeF h0 h → ps.length ≤ 2 * p + 1 → (ps.map (·.1)).flatten ++ r ++ out m.handed = out 0 →
     wpAny (model prog w) (A.under (.builtin "re.Pattern.sub.loop" ⟨[.ref P, TVal b l t, TVal b r tr, rawInt 0, rawInt 0, rawInt n, rawInt p, rawInt p, .bool false, .ref D, .bool false], []⟩))
      (do updateSeq D (·.push (TVal b r tr)); again (.builtin "re.Pattern.sub.loop" ⟨[.ref P, TVal b l t, TVal b r tr, rawInt 0, rawInt 0, rawInt (n + 1), rawInt m.handed, rawInt m.handed, .bool (m.handed == m.start), .ref D, .bool false], []⟩))
      (fun fin s' => match fin with | .done f => R (.ok f) s' | .again c' => c'.quiet = true ∧ codeAny (model prog w) A c' R s') (fun e s' => R (.error e) s') ⟨h, g, d, tk, os⟩ := by
    intro h tk ps hD hk hps hout
    refine wpAny_bind (push_wp (s := ⟨h, g, d, tk, os⟩) hD hn hk (by rw [hal]; exact Nat.le_trans hps (Nat.le_trans (Nat.succ_le_succ (Nat.mul_le_mul_left 2 (Nat.le_trans hp hz))) (by decide))) fun h' hD' hk' => wpAny_pure ⟨plainId_quiet FR.plain_loop _, ?_⟩)
    have hne : (m.handed == m.start) = false := by simp; with_reducible exact Nat.ne_of_gt (by assumption)
    rw [hne]
    rw [hap ps (r, tr)] at hD'
    refine ih m.handed (n + 1) h' tk (ps ++ [(r, tr)]) (Nat.lt_of_lt_of_le (Nat.sub_lt_sub_left (Nat.lt_of_lt_of_le (Nat.lt_of_le_of_lt h1 h2) h3) (Nat.lt_of_le_of_lt h1 h2)) (Nat.le_of_lt_succ hf)) h3 hD' hk' (by simp; exact Nat.le_trans (Nat.succ_le_succ hps) (Nat.mul_le_mul_left 2 (Nat.lt_of_le_of_lt h1 h2))) ?_
    rw [List.map_append, List.flatten_append]
    simpa using hout
   have hnn : (TVal b r tr != Value.none) = true := by cases b <;> rfl
   have jp : ∀ (h : Heap) (tk : Nat) (ps : List (List Nat × Tok)), h.IsList D (ps.map fun x => TVal b x.1 x.2).toArray → HLeF h0 h → ps.length ≤ 2 * p + 1 → (ps.map (·.1)).flatten ++ r ++ out m.handed = out 0 →
     wpAny (model prog w) (A.under (.builtin "re.Pattern.sub.loop" ⟨[.ref P, TVal b l t, TVal b r tr, rawInt 0, rawInt 0, rawInt n, rawInt p, rawInt p, .bool false, .ref D, .bool false], []⟩))
      (if (TVal b r tr != Value.none) = true then (do updateSeq D (·.push (TVal b r tr)); again (.builtin "re.Pattern.sub.loop" ⟨[.ref P, TVal b l t, TVal b r tr, rawInt 0, rawInt 0, rawInt (n + 1), rawInt m.handed, rawInt m.handed, .bool (m.handed == m.start), .ref D, .bool false], []⟩)) else
       again (.builtin "re.Pattern.sub.loop" ⟨[.ref P, TVal b l t, TVal b r tr, rawInt 0, rawInt 0, rawInt (n + 1), rawInt m.handed, rawInt m.handed, .bool (m.handed == m.start), .ref D, .bool false], []⟩))
      (fun fin s' => match fin with | .done f => R (.ok f) s' | .again c' => c'.quiet = true ∧ codeAny (model prog w) A c' R s') (fun e s' => R (.error e) s') ⟨h, g, d, tk, os⟩ := by
    intro h tk ps hD hk hps hout
    rw [if_pos hnn]
    exact item h tk ps hD hk hps hout
   show wpAny _ _ (if p < m.start then (Builtin.Re.reSlice l.toArray (kindN b) p m.start >>= _) else _) _ _ _
   by_cases hlt : p < m.start
   ·rw [if_pos hlt]
    refine wpAny_bind (slice hz fun t' => ?_)
    refine wpAny_bind (push_wp (s := ⟨h, g, d, t' + 1, os⟩) hD hn hk (by rw [hal]; exact Nat.le_trans hps (Nat.le_trans (Nat.mul_le_mul_left 2 (Nat.le_trans hp hz)) (by decide))) fun h' hD' hk' => ?_)
    rw [hap ps (_, t')] at hD'
    refine jp h' (t' + 1) (ps ++ [((l.drop p).take (m.start - p), t')]) hD' hk' (by simp; assumption) ?_
    rw [← hout, h4, List.map_append, List.flatten_append]; simp
   ·rw [if_neg hlt]
    refine jp h tk ps hD hk (Nat.le_succ_of_le hps) ?_
    rw [← hout, h4]
    have : m.start - p = 0 := Nat.sub_eq_zero_of_le (Nat.le_of_not_lt hlt)
    rw [this]; simp
  ·refine .inr ⟨h2, ?_⟩
   have jp : ∀ (h : Heap) (tk : Nat) (ps : List (List Nat × Tok)), h.IsList D (ps.map fun x => TVal b x.1 x.2).toArray → HLeF h0 h → (ps.map (·.1)).flatten = out 0 →
     wpAny (model prog w) (A.under (.builtin "re.Pattern.sub.loop" ⟨[.ref P, TVal b l t, TVal b r tr, rawInt 0, rawInt 0, rawInt n, rawInt p, rawInt p, .bool false, .ref D, .bool false], []⟩))
      (do
       let joiner ← Builtin.Re.reSlice l.toArray (kindN b) 0 0
       let text ← if ((← seqItems? (.ref D)).getD #[]).isEmpty then pure joiner else call (.builtin (if kindN b == 0 then "str.join" else "bytes.join")) [joiner, .ref D]
       ret text)
      (fun fin s' => match fin with | .done f => R (.ok f) s' | .again c' => c'.quiet = true ∧ codeAny (model prog w) A c' R s') (fun e s' => R (.error e) s') ⟨h, g, d, tk, os⟩ := by
    intro h tk ps hD hk hps
    refine wpAny_bind (slice hz fun t' => ?_)
    refine o1_3 (id hD) fun o ho' hc zz => ?_; refine o1_1 zz fun n' hd => ?_; clear zz
    refine wpAny_bind (wpAny_seqItems (s := ⟨h, g, d, t' + 1, os⟩) ho' hd ?_)
    have e0 : (l.drop 0).take (0 - 0) = [] := by simp
    rw [e0]
    show wpAny _ _ (if ((ps.map fun x => TVal b x.1 x.2).toArray).isEmpty = true then _ else _) _ _ _
    by_cases he : ps = []
    ·subst he
     rw [if_pos (by rfl)]
     refine wpAny_bind (wpAny_pure (wpAny_pure ?_))
     have : out 0 = [] := by rw [← hps]; rfl
     have := this ▸ hR h (t' + 1) t' hk
     exact this
    ·rw [if_neg (by simpa using he)]
     refine wpAny_bind (joinT (s := ⟨h, g, d, t' + 1, os⟩) hD (by rw [hps]; exact ho) fun t'' k' => wpAny_pure ?_)
     rw [hps]
     exact hR _ _ _ hk
   show wpAny _ _ (if p < l.toArray.size then (Builtin.Re.reSlice l.toArray (kindN b) p l.toArray.size >>= _) else _) _ _ _
   have hsz : l.toArray.size = l.length := by simp
   by_cases hlt : p < l.toArray.size
   ·rw [if_pos hlt]
    refine wpAny_bind (slice hz fun t' => ?_)
    refine wpAny_bind (push_wp (s := ⟨h, g, d, t' + 1, os⟩) hD hn hk (by rw [hal]; exact Nat.le_trans hps (Nat.le_trans (Nat.mul_le_mul_left 2 (Nat.le_trans (Nat.le_of_lt (hsz ▸ hlt)) hz)) (by decide))) fun h' hD' hk' => ?_)
    rw [hap ps (_, t')] at hD'
    refine jp h' (t' + 1) (ps ++ [((l.drop p).take (l.toArray.size - p), t')]) hD' hk' ?_
    rw [← hout, h1, List.map_append, List.flatten_append]
    have : (l.drop p).take (l.toArray.size - p) = l.drop p := List.take_of_length_le (by rw [List.length_drop]; exact Nat.le_of_eq (by rw [hsz]))
    show _ ++ [(l.drop p).take (l.toArray.size - p)].flatten = _
    rw [this]; simp
   ·rw [if_neg hlt]
    refine jp h tk ps hD hk ?_
    rw [← hout, h1, List.drop_eq_nil_of_le (hsz ▸ Nat.le_of_not_lt hlt), List.append_nil]
theorem sub_wp {s : Shared} {out : Nat → List Nat} {Q : Value → Shared → Prop} (hP : PatOb s.heap P code b) (hl : TOk b l) (hz : l.length ≤ 65536) (ho : (out 0).length ≤ 65536) (h92 : 92 ∉ r) (hr : TOk b r)
  (hs : ∀ p, p ≤ l.length → ∃ k, k ≤ 4 * 2 ^ 64 ∧ ((∃ a e, p ≤ a ∧ a < e ∧ e ≤ l.length ∧ out p = (l.drop p).take (a - p) ++ r ++ out e ∧ Won a e (it k (forSearch code l.toArray 0 p l.toArray.size false))) ∨ (out p = l.drop p ∧ Lost (it k (forSearch code l.toArray 0 p l.toArray.size false)))))
  (hQ : ∀ h' tk t', HLeF s.heap h' → Q (TVal b (out 0) t') { s with heap := h', toks := tk }) : wpAny (model prog w) A (call (.builtin "re.Pattern.sub") [.ref P, TVal b r tr, TVal b l t]) Q E s := by
 have hT : s.TypeIs (.ref P) "re.Pattern" := by
  obtain ⟨o, pat, fl, gi, ig, T, t1, t2, e1, e2, e3, e4, _⟩ := hP.ob
  exact ⟨o, e1, e2⟩
 refine wpAny_call (codeAny_call_builtin FR.slot_sub.plain FR.entry_sub (FR.slot_sub.check _ _ _ _ _ _ _ _ hT (FR.args_sub_3 _ _ _) ?_))
 unfold Builtin.«re.Pattern.sub» Builtin.Re.reSubstitute
 show wpAny _ _ (Builtin.Re.reNamed "re.Pattern.sub" "sub" ["repl", "string", "count"] 2 [TVal b r tr, TVal b l t] [] >>= _) _ _ _
 rw [named]
 refine wpAny_bind (wpAny_pure (wpAny_bind (wpAny_pure ?_)))
 refine wpAny_bind ?_
 have hc : wpAny (model prog w) A.in1 (specialOf (TVal b r tr) "__call__") (fun a s' => a = none ∧ s' = s) (fun _ _ => False) s := by
  cases b
  ·exact wpAny_specialOf (typeIs_str s _ _) no_call_str ⟨rfl, rfl⟩
  ·exact wpAny_specialOf (show s.TypeIs (.bytes (Bs r) tr) "bytes" from rfl) no_call_bytes ⟨rfl, rfl⟩
 refine wpAny_mono hc (fun a s' zz => o0_2 zz fun e1 e2 => ?_) fun _ _ x => x.elim
 subst e1; subst e2
 have rest : wpAny (model prog w) A.in1 (do
   let _ ← holding [TVal b r tr] (Builtin.Re.reWholeTarget (.ref P) (TVal b l t))
   let x ← newList []
   again (.builtin "re.Pattern.sub.loop" ⟨[.ref P, TVal b l t, TVal b r tr, rawInt 0, rawInt 0, rawInt 0, rawInt 0, rawInt 0, .bool false, x, .bool false], []⟩))
   (fun fin s₁ => match fin with | .done f => wants Q E (.ok f) s₁ | .again c' => c'.quiet = true ∧ codeAny (model prog w) A c' (wants Q E) s₁)
   (fun e s₁ => wants Q E (.error e) s₁) s' := by
  refine wpAny_bind (wpAny_holding (target hP hl ?_))
  refine wpAny_bind (wpAny_newList (wpAny_pure ⟨plainId_quiet FR.plain_loop _, ?_⟩) (by rw [sizeLine_eq]; decide))
  have hn : s'.heap.get? s'.heap.objs.size = none := new_none _
  exact loop (h0 := s'.heap) (g := s'.gens) (d := s'.drawn) (os := s'.os) (D := s'.heap.objs.size) (out := out) hP hl hz hn ho hs (fun h' tk t' hk => hQ h' tk t' hk) (l.length + 1) 0 0 (s'.heap.push { cls := .type "list", data := .seq #[] }) s'.toks [] (by exact Nat.lt_add_of_pos_right (by decide)) (Nat.zero_le _)
   ⟨_, Heap.get?_push_size _ rfl, rfl, _, rfl⟩ (HLeF.push _ _) (Nat.le_refl _) rfl
 cases b
 ·refine wpAny_bind (wpAny_pure ?_)
  have : (S r).cps.contains 92 = false := by
   rw [Bool.eq_false_iff]; intro q; exact h92 (by simpa [S] using q)
  show wpAny _ _ (if (!(S r).cps.contains 92) = true then _ else _) _ _ _
  rw [this, if_pos (by rfl)]
  exact rest
 ·refine wpAny_bind (wpAny_pure ?_)
  show wpAny _ _ (Builtin.Bytes.bufferQuiet? "re.Pattern.sub" (.bytes (Bs r) tr) >>= _) _ _ _
  rw [KBy.quiet_eq]
  refine wpAny_bind (wpAny_pure ?_)
  have : (Bs r).contains 92 = false := by
   rw [Bool.eq_false_iff]; intro q
   have q' : (92 : UInt8) ∈ Bs r := by simpa using q
   simp only [Bs, List.mem_toArray, List.mem_map] at q'
   refine o1_2 q' fun x hx e => ?_; clear q'
   have hx2 := hr rfl x hx
   have : x = 92 := by
    have := congrArg UInt8.toNat e
    simp [Nat.toUInt8] at this; exact (Nat.mod_eq_of_lt hx2).symm.trans this
   exact h92 (this ▸ hx)
  show wpAny _ _ (if (!(Bs r).contains 92) = true then _ else _) _ _ _
  rw [this, if_pos (by rfl)]
  exact rest
end
end Re
end Mine
end
section
open PySem PySem.W PyProof.Rows
namespace Mine
namespace Re
open Sre
def fx : List Nat → List Nat
 | [] => []
 | 13 :: 10 :: r => 13 :: 10 :: fx r
 | c :: r => if c = 13 ∨ c = 10 then 13 :: 10 :: fx r else c :: fx r
def qp : Bool → List Nat → List Nat
 | _, [] => []
 | b, c :: r => (if b = true ∧ c = 46 then [46, 46] else [c]) ++ qp (c == 10) r
theorem fx_nil : fx [] = [] := rfl
theorem fx_crlf (r : List Nat) : fx (13 :: 10 :: r) = 13 :: 10 :: fx r := rfl
theorem fx_gen {c : Nat} {r : List Nat} (h : ∀ r', c = 13 → r = 10 :: r' → False) : fx (c :: r) = if c = 13 ∨ c = 10 then 13 :: 10 :: fx r else c :: fx r := by
 rw [fx]; exact h
theorem fx_lf (r : List Nat) : fx (10 :: r) = 13 :: 10 :: fx r := by rw [fx_gen (fun _ q => by cases q), if_pos (.inr rfl)]
theorem fx_cr (r : List Nat) (h : ∀ r', r ≠ 10 :: r') : fx (13 :: r) = 13 :: 10 :: fx r := by rw [fx_gen (fun r' _ q => h r' q), if_pos (.inl rfl)]
theorem fx_other {c : Nat} (r : List Nat) (h1 : c ≠ 13) (h2 : c ≠ 10) : fx (c :: r) = c :: fx r := by rw [fx_gen (fun _ q => absurd q h1), if_neg (fun q => q.elim h1 h2)]
theorem getD_drop {l : List Nat} {p : Nat} (h : p < l.length) : l.drop p = l.toArray.getD p 0 :: l.drop (p + 1) := by
 rw [List.drop_eq_getElem_cons h]; simp [Array.getD, h]
theorem fx_skip {l : List Nat} : ∀ (d p a : Nat), p + d = a → a ≤ l.length → (∀ j, p ≤ j → j < a → ¬ nl l.toArray j) → fx (l.drop p) = (l.drop p).take (a - p) ++ fx (l.drop a)
 | 0, p, a, h, ha, hn => by
  have : a = p := by omega
  subst this; simp
 | d + 1, p, a, h, ha, hn => by
  have hp : p < l.length := by exact Om.addL3 (by assumption) (by assumption)
  have hx := hn p (Nat.le_refl _) (by exact Om.addL2 (by assumption))
  have h1 : l.toArray.getD p 0 ≠ 13 := fun q => hx ⟨by simpa using hp, .inr q⟩
  have h2 : l.toArray.getD p 0 ≠ 10 := fun q => hx ⟨by simpa using hp, .inl q⟩
  rw [getD_drop hp, fx_other _ h1 h2, fx_skip d (p + 1) a (by exact Om.addL1 (by assumption)) ha fun j h1 h2 => hn j (by exact Nat.le_of_succ_le (by assumption)) h2]
  rw [show a - p = (a - (p + 1)) + 1 by exact Om.addSub' (by assumption), List.take_succ_cons, List.cons_append]
theorem fx_at {l : List Nat} {a : Nat} (ha : nl l.toArray a) : fx (l.drop a) = [13, 10] ++ fx (l.drop (a + nlen l.toArray a)) ∧ a < a + nlen l.toArray a ∧ a + nlen l.toArray a ≤ l.length := by
 have hlt : a < l.length := by simpa using ha.1
 unfold nlen
 by_cases h : l.toArray.getD a 0 = 13 ∧ a + 1 < l.toArray.size ∧ l.toArray.getD (a + 1) 0 = 10
 ·rw [if_pos h]
  have h2 : a + 1 < l.length := by simpa using h.2.1
  refine ⟨?_, by exact Nat.lt_add_of_pos_right (by decide), by assumption⟩
  rw [getD_drop hlt, getD_drop h2, h.1, h.2.2, fx_crlf]; rfl
 ·rw [if_neg h]
  refine ⟨?_, by with_reducible exact Nat.lt_succ_self _, by assumption⟩
  rw [getD_drop hlt]
  rcases ha.2 with h10 | h13
  ·rw [h10, fx_lf]; rfl
  ·rw [h13, fx_cr]
   ·rfl
   ·intro r' e
    have h2 : a + 1 < l.length := by
     rcases Nat.lt_or_ge (a + 1) l.length with q | q
     ·exact q
     ·rw [List.drop_eq_nil_of_le q] at e; cases e
    rw [getD_drop h2] at e
    exact h ⟨h13, by simpa using h2, (List.cons.inj e).1⟩
theorem qp_skip {l : List Nat} : ∀ (d p a : Nat), p + d = a → a ≤ l.length → (∀ j, p ≤ j → j < a → ¬ dot l.toArray j) → qp (bol l.toArray p) (l.drop p) = (l.drop p).take (a - p) ++ qp (bol l.toArray a) (l.drop a)
 | 0, p, a, h, ha, hn => by
  have : a = p := by omega
  subst this; simp
 | d + 1, p, a, h, ha, hn => by
  have hp : p < l.length := by exact Om.addL3 (by assumption) (by assumption)
  have hx := hn p (Nat.le_refl _) (by exact Om.addL2 (by assumption))
  have h1 : ¬ (bol l.toArray p = true ∧ l.toArray.getD p 0 = 46) := fun q => hx ⟨q.1, by simpa using hp, q.2⟩
  have hb : bol l.toArray (p + 1) = (l.toArray.getD p 0 == 10) := by unfold bol; rfl
  rw [getD_drop hp]
  show (if _ then [46, 46] else [_]) ++ qp _ _ = _
  rw [if_neg h1, ← hb, qp_skip d (p + 1) a (by exact Om.addL1 (by assumption)) ha fun j h1 h2 => hn j (by exact Nat.le_of_succ_le (by assumption)) h2]
  rw [show a - p = (a - (p + 1)) + 1 by exact Om.addSub' (by assumption), List.take_succ_cons]; rfl
theorem qp_at {l : List Nat} {a : Nat} (ha : dot l.toArray a) : qp (bol l.toArray a) (l.drop a) = [46, 46] ++ qp (bol l.toArray (a + 1)) (l.drop (a + 1)) := by
 have hp : a < l.length := by simpa using ha.2.1
 rw [getD_drop hp]
 show (if _ then [46, 46] else [_]) ++ qp _ _ = _
 rw [if_pos ⟨ha.1, ha.2.2⟩]
 rfl
theorem spec1 {l : List Nat} (hz : l.length ≤ 65536) : ∀ p, p ≤ l.length → ∃ k, k ≤ 4 * 2 ^ 64 ∧
  ((∃ a e, p ≤ a ∧ a < e ∧ e ≤ l.length ∧ qp (bol l.toArray p) (l.drop p) = (l.drop p).take (a - p) ++ [46, 46] ++ qp (bol l.toArray e) (l.drop e) ∧ Won a e (it k (forSearch code1 l.toArray 0 p l.toArray.size false))) ∨
  (qp (bol l.toArray p) (l.drop p) = l.drop p ∧ Lost (it k (forSearch code1 l.toArray 0 p l.toArray.size false)))) := by
 intro p hp
 have hsz : l.toArray.size = l.length := by simp
 refine (i1_2 (0 + 4 * (l.toArray.size - p) + 6) (by omega) ?_)
 refine begin1 (text := l.toArray) (by assumption) 0 (fun m => (∃ a e, p ≤ a ∧ a < e ∧ e ≤ l.length ∧ qp (bol l.toArray p) (l.drop p) = (l.drop p).take (a - p) ++ [46, 46] ++ qp (bol l.toArray e) (l.drop e) ∧ Won a e m) ∨ (qp (bol l.toArray p) (l.drop p) = l.drop p ∧ Lost m)) ?_ ?_
 ·intro a m ha hd hj hw
  have hal : a < l.length := by have := hd.2.1; assumption
  refine .inl (i2_5 a (a + 1) ha (by with_reducible exact Nat.lt_succ_self _) (by assumption) ?_ hw)
  rw [qp_skip (a - p) p a (by exact Nat.add_sub_of_le (by assumption)) (by with_reducible exact Nat.le_of_lt (by assumption)) hj, qp_at hd, List.append_assoc]
 ·intro hj m hl
  refine .inr ⟨?_, hl⟩
  rw [qp_skip (l.length - p) p l.length (by exact Nat.add_sub_of_le (by assumption)) (Nat.le_refl _) fun j h _ => hj j h, List.take_of_length_le (by rw [List.length_drop]; with_reducible exact Nat.le_refl _), List.drop_length]
  simp [qp]
theorem spec2 {l : List Nat} : ∀ p, p ≤ l.length → ∃ k, k ≤ 4 * 2 ^ 64 ∧
  ((∃ a e, p ≤ a ∧ a < e ∧ e ≤ l.length ∧ fx (l.drop p) = (l.drop p).take (a - p) ++ [13, 10] ++ fx (l.drop e) ∧ Won a e (it k (forSearch code2 l.toArray 0 p l.toArray.size false))) ∨
  (fx (l.drop p) = l.drop p ∧ Lost (it k (forSearch code2 l.toArray 0 p l.toArray.size false)))) := by
 intro p hp
 have hsz : l.toArray.size = l.length := by simp
 refine (i1_2 (0 + 20) (by decide) ?_)
 refine begin2 (text := l.toArray) (by assumption) 0 (fun m => (∃ a e, p ≤ a ∧ a < e ∧ e ≤ l.length ∧ fx (l.drop p) = (l.drop p).take (a - p) ++ [13, 10] ++ fx (l.drop e) ∧ Won a e m) ∨ (fx (l.drop p) = l.drop p ∧ Lost m)) ?_ ?_
 ·intro a m ha hd hj hw
  have hal : a < l.length := by have := hd.1; assumption
  refine o0_3 (fx_at hd) fun h1 h2 h3 => ?_
  refine .inl (i2_5 a (a + nlen l.toArray a) ha h2 h3 ?_ hw)
  rw [fx_skip (a - p) p a (by exact Nat.add_sub_of_le (by assumption)) (by with_reducible exact Nat.le_of_lt (by assumption)) hj, h1, List.append_assoc]
 ·intro hj m hl
  refine .inr ⟨?_, hl⟩
  rw [fx_skip (l.length - p) p l.length (by exact Nat.add_sub_of_le (by assumption)) (Nat.le_refl _) fun j h _ => hj j h, List.take_of_length_le (by rw [List.length_drop]; with_reducible exact Nat.le_refl _), List.drop_length, fx_nil]
  simp
end Re
theorem FR.plainAttrs_pat : PlainAttrs "re.Pattern" :=
 ⟨(i1_2 "object.__getattribute__" (by rw [typeLookup_type, builtinLookup_eq_fast]; kernel_rfl) (by decide +kernel)), by rw [typeLookup_type, builtinLookup_eq_fast]; kernel_rfl⟩
variable {W : Wd} {n : Nat}
theorem MethT.sub {P : Addr} {code : Array Nat} {b : Bool} (hP : Re.PatOb W.h₀ P code b) : MethT W "sub" (.val (.ref P)) (.builtin "re.Pattern.sub") := fun A N G s v pl Q H r h => by
 have := r.val_inv; subst this
 obtain ⟨o, pat, fl, gi, ig, T, t1, t2, e1, e2, e3, e4, _⟩ := hP.ob
 have e1' := H.base _ _ e1
 exact getMethod_builtin (show s.TypeIs (.ref P) "re.Pattern" from ⟨o, e1', e2⟩) FR.plainAttrs_pat FR.slot_sub FR.type_sub (fun a e => by cases e; exact (i1_2 o e1' e3)) h
theorem Hp.ext {N : Addr → Prop} {G : PH} {s : Shared} {h' : Heap} {tk : Nat} (H : Hp W N G s) (hk : HLeF s.heap h') : Hp W N G { s with heap := h', toks := tk } :=
 ⟨fun b o e => hk _ _ (H.base b o e), H.gin.leF hk, fun a ha => o0_2 (H.nok a ha) fun zz hg => o1_1 zz fun o ho => ⟨⟨o, hk _ _ ho⟩, hg⟩, H.os, H.gens, H.pl, H.ps.keep fun o e => hk _ _ e⟩
theorem CallP.sub2 {P : Addr} (hP : Re.PatOb W.h₀ P Re.code2 false) {l : List Nat} (hz : l.length ≤ 65536) (ho : (Re.fx l).length ≤ 65536) {Ψ : PV → Prop} (h : Ψ (.str (S (Re.fx l)))) :
  CallP W n (.val (.builtin "re.Pattern.sub")) [.val (.ref P), .str (S [13, 10]), .str (S l)] Ψ := fun A N G s f vs R H rf rv => by
 have := rf.val_inv; subst this; refine o3_4 rv.inv3 fun a b c zd ra rb rc => ?_; obtain rfl := zd
 have := ra.val_inv; subst this; refine o1_1 rb.str_inv fun t zb => ?_; obtain rfl := zb; refine o1_1 rc.str_inv fun u zb => ?_; obtain rfl := zb
 exact Re.sub_wp (out := fun p => Re.fx (l.drop p)) (b := false) (hP.same (h₀ := W.h₀) H.base) (fun q => by cases q) hz ho (by decide) (fun q => by cases q) Re.spec2
  fun h' tk t' hk => ⟨G, _, PH.Le.refl G, H.ext hk, HLe.full hk, Rep.st, h⟩
theorem CallP.sub1 {P : Addr} (hP : Re.PatOb W.h₀ P Re.code1 true) {l : List Nat} (hz : l.length ≤ 65536) (hl : ∀ x ∈ l, x < 256) (ho : (Re.qp true l).length ≤ 65536) {Ψ : PV → Prop} (h : Ψ (.bytes (Re.Bs (Re.qp true l)))) :
  CallP W n (.val (.builtin "re.Pattern.sub")) [.val (.ref P), .bytes (Re.Bs [46, 46]), .bytes (Re.Bs l)] Ψ := fun A N G s f vs R H rf rv => by
 have := rf.val_inv; subst this; refine o3_4 rv.inv3 fun a b c zd ra rb rc => ?_; obtain rfl := zd
 have := ra.val_inv; subst this; refine o1_1 rb.bytes_inv fun t zb => ?_; obtain rfl := zb; refine o1_1 rc.bytes_inv fun u zb => ?_; obtain rfl := zb
 exact Re.sub_wp (out := fun p => Re.qp (Re.bol l.toArray p) (l.drop p)) (b := true) (hP.same (h₀ := W.h₀) H.base) (fun _ => hl) hz ho (by decide) (fun _ => by decide) (Re.spec1 hz)
  fun h' tk t' hk => ⟨G, _, PH.Le.refl G, H.ext hk, HLe.full hk, (by exact Exists.intro _ rfl), h⟩
end Mine
end
section
open PySem PySem.W PyProof.Rows
namespace Mine
namespace Enc
theorem forIn_two {β : Type} {f : Nat → β → Sem (ForInStep β)} {b0 b1 : β} {n : Nat} (h1 : f 0 b0 = pure (.yield b1)) (h2 : ∀ i, f i b1 = pure (.done b1)) : forIn (List.range' 0 (n + 1)) b0 f = pure b1 := by
 rw [List.range'_succ, List.forIn_cons, h1, pure_bind]
 cases n with
 | zero => rfl
 | succ n =>
  show forIn (List.range' 1 (n + 1)) b1 f = _
  rw [List.range'_succ, List.forIn_cons, h2, pure_bind]
theorem bytesFold (l : List Nat) : ∀ acc : Array UInt8, l.foldl (fun acc y => acc ++ (Builtin._codecs.asciiCodec.bytesOf y).toArray) acc = acc ++ Re.Bs l := by
 induction l with
 | nil => intro acc; simp [Re.Bs]
 | cons c l ih =>
  intro acc
  rw [List.foldl_cons, ih]
  have : Re.Bs (c :: l) = [c.toUInt8].toArray ++ Re.Bs l := by simp [Re.Bs]
  rw [this, ← Array.append_assoc]; rfl
theorem narrow {v : Value} {l : List Nat} (h : ∀ x ∈ l, x < 128) (hz : l.length ≤ 65536) : Builtin._codecs.encodeNarrow "str.encode" Builtin._codecs.asciiCodec none v (S l) = pure (Re.Bs l) := by
 have hs : (S l).length = l.length := S_len l
 have hbad : ∀ x ∈ l, Builtin._codecs.asciiCodec.bad x = false := fun x hx => by
  show decide (x ≥ 128) = false
  have := h x hx
  exact decide_eq_false (by exact Nat.not_le_of_gt (by assumption))
 unfold Builtin._codecs.encodeNarrow
 refine (?_ : (forIn (m := Sem) (ρ := Std.Legacy.Range) (α := Nat) (β := Nat × Array UInt8 × Builtin._codecs.Faults) [:(S l).length] (0, #[], {}) _ >>= _) = _)
 rw [Std.Legacy.Range.forIn_eq_forIn_range', hs]
 have e0 : ([:l.length] : Std.Legacy.Range).size = l.length := by simp [Std.Legacy.Range.size]
 rw [e0]
 cases l with
 | nil => rfl
 | cons c r =>
  rw [List.length_cons]
  refine (congrArg (· >>= _) (forIn_two (n := r.length) (b1 := ((c :: r).length, Re.Bs (c :: r), {})) ?_ ?_)).trans ?_
  rotate_left 2
  ·rfl
  ·show (if (#[] : Array UInt8).size > sizeLine then _ else (if (!Builtin._codecs.asciiCodec.bad c) = true then _ else _)) = _
   rw [if_neg (by decide), hbad c (by simp), if_pos (by rfl)]
   have e1 : (S (c :: r)).cps.extract 0 = (c :: r).toArray := by simp [S]
   have e2 : Array.findIdx? Builtin._codecs.asciiCodec.bad (c :: r).toArray = none := by
    rw [List.findIdx?_toArray, List.findIdx?_eq_none_iff]; exact hbad
   simp only [e1, e2, Option.getD_none]
   have e3 : ((c :: r).toArray.extract 0 (c :: r).toArray.size) = (c :: r).toArray := by simp
   rw [e3, List.foldl_toArray, bytesFold]
   simp
  ·intro i
   have e1 : (S (c :: r)).cps[(c :: r).length]? = none := by simp [S]
   show (if (Re.Bs (c :: r)).size > sizeLine then _ else (match (S (c :: r)).cps[(c :: r).length]? with | some x => _ | x => pure (ForInStep.done ((c :: r).length, Re.Bs (c :: r), ({} : Builtin._codecs.Faults))))) = _
   rw [if_neg (by rw [Re.Bs_size, sizeLine_eq]; omega), e1]
theorem bindEnc (b : Value) : Builtin.Str.bindOptional "str.encode" "encode" 0 ["encoding", "errors"] [b] [] = pure [some b, none] := by kernel_rfl
theorem argEnc (t : Tok) : Builtin.Str.codecArg "str.encode" "encode" "'encoding'" (some (.str (Str.ofString "ascii") t)) = pure (some (Str.ofString "ascii")) := by kernel_rfl
theorem road (v : Value) (s : Str) : Builtin._codecs.encodeRoad "str.encode" v s (Str.ofString "ascii") none = (Builtin._codecs.encodeNarrow "str.encode" Builtin._codecs.asciiCodec none v s >>= fun b => mkBytes b) := by
 have e4 : (Builtin._codecs.normalName (Str.ofString "ascii")).toString = "ascii" := by decide +kernel
 unfold Builtin._codecs.encodeRoad
 rw [e4]
 kernel_rfl
theorem encode_wp {prog : Program} {w : World} {A : Around} {E : Value → Shared → Prop} {s : Shared} {l : List Nat} {t u : Tok} {Q : Value → Shared → Prop} (h : ∀ x ∈ l, x < 128) (hz : l.length ≤ 65536)
  (hQ : ∀ t' k, Q (.bytes (Re.Bs l) t') { s with toks := k }) : wpAny (model prog w) A (call (.builtin "str.encode") [.str (S l) t, .str (Str.ofString "ascii") u]) Q E s := by
 refine wpAny_call (codeAny_call_builtin F.slot_str_encode.plain F.entry_str_encode (F.slot_str_encode.check _ _ _ _ _ _ _ _ (typeIs_str _ _ _) (F.args_str_encode_2 _ _) ?_))
 unfold Builtin.«str.encode»
 refine wpAny_bind (wpAny_pure ?_)
 show wpAny _ _ (Builtin.Str.bindOptional "str.encode" "encode" 0 ["encoding", "errors"] [.str (Str.ofString "ascii") u] [] >>= _) _ _ _
 rw [bindEnc]
 refine wpAny_bind (wpAny_pure ?_)
 show wpAny _ _ (Builtin.Str.codecArg "str.encode" "encode" "'encoding'" (some (.str (Str.ofString "ascii") u)) >>= _) _ _ _
 rw [argEnc]
 refine wpAny_bind (wpAny_pure (wpAny_bind (wpAny_pure ?_)))
 show wpAny _ _ (Builtin._codecs.encodeRoad "str.encode" (.str (S l) t) (S l) (Str.ofString "ascii") none >>= _) _ _ _
 rw [road, narrow h hz]
 refine wpAny_bind (wpAny_bind (wpAny_pure (wpAny_mkBytes ?_ (by rw [Re.Bs_size, sizeLine_eq]; with_reducible exact Nat.le_trans (by assumption) (by decide)))))
 exact wpAny_pure (hQ _ _)
end Enc
theorem CallP.encode {W : Wd} {n : Nat} {l : List Nat} (hl : ∀ x ∈ l, x < 128) (hz : l.length ≤ 65536) {Ψ : PV → Prop} (h : Ψ (.bytes (Re.Bs l))) :
  CallP W n (.val (.builtin "str.encode")) [.str (S l), .str (S (lit "ascii"))] Ψ := fun A N G s f vs R H rf rv => by
 have := rf.val_inv; subst this; refine o2_3 rv.inv2 fun a b zc ra rb => ?_; obtain rfl := zc
 refine o1_1 ra.str_inv fun t zb => ?_; obtain rfl := zb; refine o1_1 rb.str_inv fun u zb => ?_; obtain rfl := zb
 have e : S (lit "ascii") = Str.ofString "ascii" := by simp [S, lit]
 rw [e]
 exact Enc.encode_wp hl hz fun t' k => VPost.tok H (by exact Exists.intro _ rfl) h
end Mine
end
section
open PySem PySem.W PyProof.Rows
namespace Mine
namespace Spt
open Re (Bs Bs_size Bs_app)
def flatR (ms : List (List Nat)) : List Nat := (ms.map (· ++ [13, 10])).flatten
def plc : Nat → List (List Nat) → List Nat
 | _, [] => []
 | q, m :: ms => (q + m.length) :: plc (q + m.length + 2) ms
def stp (b sub : Array UInt8) (acc : List Nat × Nat) (i : Nat) : List Nat × Nat := if i ≥ acc.2 && b.extract i (i + sub.size) == sub then (i :: acc.1, i + sub.size) else acc
theorem Bs_extract (l : List Nat) (i j : Nat) : (Bs l).extract i j = Bs ((l.drop i).take (j - i)) := by
 simp [Bs, List.extract_toArray, List.extract_eq_take_drop, List.map_take, List.map_drop]
theorem Bs_inj {a b : List Nat} (ha : ∀ x ∈ a, x < 256) (hb : ∀ x ∈ b, x < 256) (h : Bs a = Bs b) : a = b := by
 have := congrArg (fun x : Array UInt8 => (x.map (·.toNat)).toList) h
 simpa [Re.Bs_nat ha, Re.Bs_nat hb] using this
theorem Bs_beq {a b : List Nat} (ha : ∀ x ∈ a, x < 256) (hb : ∀ x ∈ b, x < 256) : (Bs a == Bs b) = (a == b) := by
 by_cases h : a = b
 ·subst h; simp
 ·have h2 : Bs a ≠ Bs b := fun q => h (Bs_inj ha hb q)
  rw [beq_eq_false_iff_ne.mpr h, beq_eq_false_iff_ne.mpr h2]
theorem stp_no {l : List Nat} {acc : List Nat × Nat} {i : Nat} (hl : ∀ x ∈ l, x < 256) (h : (l.drop i).take 2 ≠ [13, 10]) : stp (Bs l) (Bs [13, 10]) acc i = acc := by
 unfold stp
 have e : ((Bs l).extract i (i + (Bs [13, 10]).size) == Bs [13, 10]) = false := by
  rw [Bs_extract, Bs_size, Bs_beq (fun x hx => hl x (List.drop_subset _ _ (List.take_subset _ _ hx))) (by decide)]
  rw [beq_eq_false_iff_ne]; rwa [show i + [13, 10].length - i = 2 by simp]
 rw [e, Bool.and_false, if_neg (by decide)]
theorem stp_low {b sub : Array UInt8} {acc : List Nat × Nat} {i : Nat} (h : i < acc.2) : stp b sub acc i = acc := by
 unfold stp
 rw [show (decide (i ≥ acc.2)) = false from decide_eq_false (by exact Nat.not_le_of_gt (by assumption)), Bool.false_and, if_neg (by decide)]
theorem stp_yes {l : List Nat} {acc : List Nat × Nat} {i : Nat} (hi : acc.2 ≤ i) (h : (l.drop i).take 2 = [13, 10]) : stp (Bs l) (Bs [13, 10]) acc i = (i :: acc.1, i + 2) := by
 unfold stp
 have e : ((Bs l).extract i (i + (Bs [13, 10]).size) == Bs [13, 10]) = true := by
  rw [Bs_extract, Bs_size, show i + [13, 10].length - i = 2 by simp, h]; exact beq_self_eq_true _
 rw [e, show (decide (i ≥ acc.2)) = true from decide_eq_true hi]; rfl
theorem skip_row {l : List Nat} (hl : ∀ x ∈ l, x < 256) {acc : List Nat × Nat} : ∀ (k q : Nat), (∀ j, q ≤ j → j < q + k → l[j]? ≠ some 13) → ((List.range k).map (· + q)).foldl (stp (Bs l) (Bs [13, 10])) acc = acc
 | 0, _, _ => rfl
 | k + 1, q, h => by
  rw [List.range_succ, List.map_append, List.foldl_append, skip_row hl k q fun j h1 h2 => h j h1 (by omega)]
  refine stp_no hl fun e => ?_
  have : (l.drop (k + q))[0]? = some 13 := by
   have := congrArg (·[0]?) e
   simpa using this
  rw [List.getElem?_drop] at this
  exact h (k + q) (by with_reducible exact Nat.le_add_left _ _) (by omega) (by simpa using this)
theorem occ {l : List Nat} (hl : ∀ x ∈ l, x < 256) : ∀ (ms : List (List Nat)) (pre : List Nat) (acc : List Nat × Nat), l = pre ++ flatR ms → (∀ m ∈ ms, 13 ∉ m) → acc.2 ≤ pre.length →
  (((List.range (flatR ms).length).map (· + pre.length)).foldl (stp (Bs l) (Bs [13, 10])) acc).1 = (plc pre.length ms).reverse ++ acc.1
 | [], pre, acc, _, _, _ => by simp [flatR, plc]
 | m :: ms, pre, acc, e, hm, ha => by
  have ef : flatR (m :: ms) = m ++ [13, 10] ++ flatR ms := by simp [flatR]
  have e1 : l = (pre ++ (m ++ [13, 10])) ++ flatR ms := by rw [e, ef]; simp
  have el : (flatR (m :: ms)).length = m.length + (2 + (flatR ms).length) := by rw [ef]; simp; omega
  rw [el, List.range_add, List.map_append, List.foldl_append, skip_row hl m.length pre.length]
  ·rw [List.map_map, List.range_add, List.map_append, List.foldl_append, List.map_map]
   have e2 : ((fun x => x + pre.length) ∘ (fun x => m.length + x)) ∘ (fun x => 2 + x) = (· + (pre ++ (m ++ [13, 10])).length) := by
    funext x; simp; simp only [Nat.add_comm, Nat.add_left_comm, Nat.add_assoc]
   have e3 : (List.range 2).map ((fun x => x + pre.length) ∘ (fun x => m.length + x)) = [pre.length + m.length, pre.length + m.length + 1] := by
    simp [List.range_succ]; omega
   rw [e2, e3, List.foldl_cons, List.foldl_cons, List.foldl_nil]
   have hy : (l.drop (pre.length + m.length)).take 2 = [13, 10] := by
    rw [e, ef]; rw [show pre ++ (m ++ [13, 10] ++ flatR ms) = (pre ++ m) ++ ([13, 10] ++ flatR ms) by simp, ← List.length_append, List.drop_left]; rfl
   rw [stp_yes (by omega) hy, stp_low (by show _ < _ + 2; with_reducible exact Nat.lt_succ_self _)]
   have := occ hl ms (pre ++ (m ++ [13, 10])) ((pre.length + m.length) :: acc.1, pre.length + m.length + 2) e1 (fun m' h' => hm m' (by simp [h'])) (by simp; omega)
   rw [this]
   simp [plc, Nat.add_assoc]
  ·intro j h1 h2
   rw [e, ef, List.getElem?_append_right h1, List.append_assoc, List.getElem?_append_left (by omega)]
   intro q
   exact hm m (by simp) (List.mem_of_getElem? q)
theorem places {ms : List (List Nat)} (hl : ∀ x ∈ flatR ms, x < 256) (hm : ∀ m ∈ ms, 13 ∉ m) : Builtin.Bytes.occurrences (Bs (flatR ms)) (Bs [13, 10]) 0 (Bs (flatR ms)).size = plc 0 ms := by
 have e : Builtin.Bytes.occurrences (Bs (flatR ms)) (Bs [13, 10]) 0 (Bs (flatR ms)).size = (((List.range ((flatR ms).length + 1 - 2)).map (· + 0)).foldl (stp (Bs (flatR ms)) (Bs [13, 10])) ([], 0)).1.reverse := by
  rw [Bs_size]; rfl
 rw [e]
 have h := occ hl ms [] ([], 0) rfl hm (Nat.le_refl _)
 rw [List.append_nil] at h
 have key : ((List.range ((flatR ms).length + 1 - 2)).map (· + 0)).foldl (stp (Bs (flatR ms)) (Bs [13, 10])) ([], 0) = ((List.range (flatR ms).length).map (· + ([] : List Nat).length)).foldl (stp (Bs (flatR ms)) (Bs [13, 10])) ([], 0) := by
  cases hn : (flatR ms).length with
  | zero => rfl
  | succ k =>
   rw [show k + 1 + 1 - 2 = k by rfl, List.range_succ, List.map_append, List.foldl_append]
   refine (stp_no hl ?_).symm
   intro q
   have := congrArg List.length q
   simp at this
   omega
 rw [key, h, List.reverse_reverse]
 rfl
def bst (b : Array UInt8) (w : Nat) (acc : Array (Array UInt8) × Nat) (p : Nat) : Array (Array UInt8) × Nat := (acc.1.push (b.extract acc.2 p), p + w)
theorem btw {l : List Nat} : ∀ (ms : List (List Nat)) (pre : List Nat) (parts : Array (Array UInt8)), l = pre ++ flatR ms →
  (plc pre.length ms).foldl (bst (Bs l) 2) (parts, pre.length) = (parts ++ (ms.map Bs).toArray, l.length)
 | [], pre, parts, e => by simp [plc, e, flatR]
 | m :: ms, pre, parts, e => by
  have ef : flatR (m :: ms) = m ++ [13, 10] ++ flatR ms := by simp [flatR]
  have e1 : l = (pre ++ (m ++ [13, 10])) ++ flatR ms := by rw [e, ef]; simp
  have ex : (Bs l).extract pre.length (pre.length + m.length) = Bs m := by
   rw [Bs_extract, e, ef, List.drop_left, List.append_assoc, List.take_append_of_le_length (by omega), List.take_of_length_le (by omega)]
  have h := btw ms (pre ++ (m ++ [13, 10])) (parts.push (Bs m)) e1
  have hl : (pre ++ (m ++ [13, 10])).length = pre.length + m.length + 2 := by simp; rfl
  rw [hl] at h
  show (plc (pre.length + m.length + 2) ms).foldl (bst (Bs l) 2) (parts.push ((Bs l).extract pre.length (pre.length + m.length)), pre.length + m.length + 2) = _
  rw [ex, h]; simp
theorem between {ms : List (List Nat)} : Builtin.Bytes.between (Bs (flatR ms)) 2 (plc 0 ms) = (ms ++ [[]]).map Bs := by
 have h := btw ms [] #[] rfl
 have e : Builtin.Bytes.between (Bs (flatR ms)) 2 (plc 0 ms) = (((plc 0 ms).foldl (bst (Bs (flatR ms)) 2) (#[], 0)).1.push ((Bs (flatR ms)).extract ((plc 0 ms).foldl (bst (Bs (flatR ms)) 2) (#[], 0)).2 (Bs (flatR ms)).size)).toList := rfl
 rw [e, show (plc 0 ms).foldl (bst (Bs (flatR ms)) 2) (#[], 0) = (#[] ++ (ms.map Bs).toArray, (flatR ms).length) from h]
 show ((#[] ++ (ms.map Bs).toArray).push ((Bs (flatR ms)).extract (flatR ms).length (Bs (flatR ms)).size)).toList = _
 rw [Bs_extract, List.drop_length]
 simp
theorem plc_len : ∀ (ms : List (List Nat)) (q : Nat), (plc q ms).length = ms.length
 | [], _ => rfl
 | m :: ms, q => by simp [plc, plc_len ms]
theorem flatR_len : ∀ (ms : List (List Nat)), 2 * ms.length ≤ (flatR ms).length
 | [] => Nat.le_refl _
 | m :: ms => by
  have := flatR_len ms
  simp [flatR] at this ⊢; omega
theorem bindSplit (b : Value) : Builtin.Bytes.bindOptional "bytes.split" "split" ["sep", "maxsplit"] [b] [] = pure [some b, none] := by kernel_rfl
theorem mapNew {Mo : Model} {A : Around} {E : Value → Shared → Prop} {Q : List Value → Shared → Prop} : ∀ (ms : List (List Nat)) (s : Shared), (∀ m ∈ ms, m.length ≤ 65536) → (∀ (l : List (List Nat × Tok)) k, l.map (·.1) = ms → Q (l.map Re.bVal) { s with toks := k }) →
  wpAny Mo A ((ms.map Bs).mapM fun x => mkBytes x) Q E s
 | [], s, _, h => by
  rw [List.map_nil, List.mapM_nil]
  exact wpAny_pure (h [] s.toks rfl)
 | m :: ms, s, hz, h => by
  rw [List.map_cons, List.mapM_cons]
  refine wpAny_bind (wpAny_mkBytes ?_ (by have := hz m (by simp); rw [Bs_size, sizeLine_eq]; with_reducible exact Nat.le_trans (by assumption) (by decide)))
  refine wpAny_bind (mapNew ms _ (fun m' h' => hz m' (by simp [h'])) fun l k e => wpAny_pure ?_)
  exact h ((m, s.toks) :: l) k (by simp [e])
theorem split_wp {prog : Program} {w : World} {A : Around} {E : Value → Shared → Prop} {s : Shared} {ms : List (List Nat)} {t u : Tok} {Q : Value → Shared → Prop} (hne : ms ≠ []) (hl : ∀ x ∈ flatR ms, x < 256) (hm : ∀ m ∈ ms, 13 ∉ m) (hz : (flatR ms).length ≤ 65536)
  (hQ : ∀ (l : List (List Nat × Tok)) k, l.map (·.1) = ms ++ [[]] → Q (.ref s.heap.objs.size) { s with heap := s.heap.push { cls := .type "list", data := .seq (l.map Re.bVal).toArray }, toks := k }) :
  wpAny (model prog w) A (call (.builtin "bytes.split") [.bytes (Bs (flatR ms)) t, .bytes (Bs [13, 10]) u]) Q E s := by
 refine wpAny_call (codeAny_call_builtin FR.slot_bsplit.plain FR.entry_bsplit (FR.slot_bsplit.check _ _ _ _ _ _ _ _ (show s.TypeIs (.bytes (Bs (flatR ms)) t) "bytes" from rfl) (FR.args_bsplit_2 _ _) ?_))
 unfold Builtin.«bytes.split» Builtin.Bytes.splitM
 show wpAny _ _ (Builtin.Bytes.bindOptional "bytes.split" "split" ["sep", "maxsplit"] [.bytes (Bs [13, 10]) u] [] >>= _) _ _ _
 rw [bindSplit]
 refine wpAny_bind (wpAny_pure ?_)
 show wpAny _ _ (pure (-1 : Int) >>= _) _ _ _
 refine wpAny_bind (wpAny_pure ?_)
 show wpAny _ _ (Builtin.Bytes.payload (.bytes (Bs (flatR ms)) t) >>= _) _ _ _
 refine wpAny_bind ((?_ : wpAny _ _ (pure (Bs (flatR ms))) _ _ _))
 refine wpAny_pure ?_
 show wpAny _ _ (Builtin.Bytes.bytesLike "bytes.split" (.bytes (Bs [13, 10]) u) >>= _) _ _ _
 refine wpAny_bind ?_
 unfold Builtin.Bytes.bytesLike
 rw [KBy.buffer_eq]
 refine wpAny_bind (wpAny_pure (wpAny_pure ?_))
 show wpAny _ _ (if (Bs [13, 10]).isEmpty = true then _ else (if (((Builtin.Bytes.occurrences (Bs (flatR ms)) (Bs [13, 10]) 0 (Bs (flatR ms)).size).take ((Bs (flatR ms)).size + 1)).isEmpty) = true then _ else
  (((Builtin.Bytes.between (Bs (flatR ms)) 2 ((Builtin.Bytes.occurrences (Bs (flatR ms)) (Bs [13, 10]) 0 (Bs (flatR ms)).size).take ((Bs (flatR ms)).size + 1))).mapM fun x => mkBytes x) >>= _))) _ _ _
 have hp : (plc 0 ms).take ((Bs (flatR ms)).size + 1) = plc 0 ms := List.take_of_length_le (by have := flatR_len ms; rw [plc_len, Bs_size]; omega)
 have hpe : (plc 0 ms).isEmpty = false := by
  cases ms with
  | nil => exact absurd rfl hne
  | cons m ms => rfl
 rw [if_neg (by decide), places hl hm, hp, hpe, if_neg (by decide), between]
 refine wpAny_bind (mapNew (ms ++ [[]]) _ (fun m hm' => ?_) fun l k e => ?_)
 ·rcases List.mem_append.mp hm' with h | h
  ·have : m.length ≤ (flatR ms).length := by
    have h2 : (m ++ [13, 10]).length ≤ (flatR ms).length := by
     unfold flatR
     exact List.Sublist.length_le (List.sublist_flatten_of_mem (List.mem_map.mpr (i1_2 m h rfl)))
    rw [List.length_append] at h2; omega
   with_reducible exact Nat.le_trans (by assumption) (by assumption)
  ·rw [List.mem_singleton.mp h]; decide
 ·refine wpAny_bind (wpAny_newList (wpAny_pure (hQ l k e)) ?_)
  have h1 : (l.map Re.bVal).length = ms.length + 1 := by
   have := congrArg List.length e
   simpa using this
  have := flatR_len ms
  rw [h1, sizeLine_eq]; omega
end Spt
theorem Reps.bytesL {W : Wd} {G : PH} : ∀ l : List (List Nat × Tok), Reps W G (l.map fun x => .bytes (Re.Bs x.1)) (l.map Re.bVal)
 | [] => Reps.nil
 | x :: l => Reps.cons (by exact Exists.intro x.2 rfl) (Reps.bytesL l)
theorem CallP.split {W : Wd} {n : Nat} {ms : List (List Nat)} (hne : ms ≠ []) (hl : ∀ x ∈ Spt.flatR ms, x < 256) (hm : ∀ m ∈ ms, 13 ∉ m) (hz : (Spt.flatR ms).length ≤ 65536) {Ψ : PV → Prop} (h : Ψ (.list ((ms ++ [[]]).map fun m => .bytes (Re.Bs m)))) :
  CallP W n (.val (.builtin "bytes.split")) [.bytes (Re.Bs (Spt.flatR ms)), .bytes (Re.Bs [13, 10])] Ψ := fun A N G s f vs R H rf rv => by
 have := rf.val_inv; subst this; refine o2_3 rv.inv2 fun a b zc ra rb => ?_; obtain rfl := zc
 refine o1_1 ra.bytes_inv fun t zb => ?_; obtain rfl := zb; refine o1_1 rb.bytes_inv fun u zb => ?_; obtain rfl := zb
 refine Spt.split_wp hne hl hm hz fun l k e => ?_
 refine o0_2 (H.push (o := { cls := .type "list", data := .seq (l.map Re.bVal).toArray }) rfl) fun H' g' => ?_
 refine ⟨_, _, g', H'.tok k, HLe.push _ _ _, ?_, h⟩
 refine i4_5 _ _ _ _ rfl (PH.add_self ..) rfl rfl ?_
 rw [← e, List.map_map]
 exact Reps.mono g' _ _ (Reps.bytesL l)
end Mine
end
section
open PySem PySem.W PyProof.Rows
namespace Mine
namespace Zt
section
variable {prog : Program} {w : World} {A : Around} {E : Value → Shared → Prop} {s : Shared}
theorem draw {it t : Addr} {i : Nat} {xs : Array Value} {x : Value} {Q : Value → Shared → Prop} (hit : s.heap.IsTupleIter it t i) (ht : s.heap.IsTuple t xs) (hx : xs[i]? = some x)
  (hQ : ∀ h', h'.IsTupleIter it t (i + 1) → Heap.SameBut it s.heap h' → Q x { s with heap := h' }) : wpAny (model prog w) A (Builtin.SmallTypes.nextOf (.ref it)) Q E s := by
 have T := hit.typeIs (s := s)
 refine o1_3 (id hit) fun o ho hc hd => ?_
 refine o1_3 ht fun ot hot _ zz => ?_; clear ht; refine o1_1 zz fun nt hdt => ?_; clear zz
 unfold Builtin.SmallTypes.nextOf
 refine wpAny_bind (wpAny_callSpecial?_slot (name := Str.ofString "__next__") T F.slot_tuple_iterator_next (wpAny_call_entry F.slot_tuple_iterator_next T F.entry_tuple_iterator_next ?_ (F.args_tuple_iterator_next_1 _)))
 refine (?_ : wpAny _ _ (field (.ref it) 0 >>= _) _ _ s)
 refine wpAny_bind (wpAny_field ho hd (x := .ref t) rfl ?_)
 refine (?_ : wpAny _ _ (field (.ref it) 1 >>= _) _ _ s)
 refine wpAny_bind (wpAny_field ho hd (x := .int i 0) rfl ?_)
 refine (?_ : wpAny _ _ (seqItems? (.ref t) >>= _) _ _ s)
 refine wpAny_bind (wpAny_seqItems hot hdt ?_)
 simp only [Int.toNat_natCast, hx]
 refine wpAny_bind (wpAny_setField ho hd (by simp) (wpAny_pure (i1_2 x rfl (wpAny_pure (hQ _ ⟨_, Heap.get?_update_self _ ho (Obj.isFreed_of_fields (Obj.data_mapFields hd _)), (Obj.cls_mapFields ..).trans hc, ?_⟩ (Heap.SameBut.update ..))))))
 rw [Obj.data_mapFields hd]; simp [rawInt]
theorem draw_end {it t : Addr} {i : Nat} {xs : Array Value} {Q : Value → Shared → Prop} (hh : A.handled = none) (hit : s.heap.IsTupleIter it t i) (ht : s.heap.IsTuple t xs) (hx : xs[i]? = none)
  (hE : ∀ h' e, Heap.ExtBut it s.heap h' → (∃ o, h'.get? e = some o ∧ o.cls = .type "StopIteration") → E (.ref e) { s with heap := h' }) : wpAny (model prog w) A (Builtin.SmallTypes.nextOf (.ref it)) Q E s := by
 have T := hit.typeIs (s := s)
 refine o1_3 (id hit) fun o ho hc hd => ?_
 refine o1_3 ht fun ot hot _ zz => ?_; clear ht; refine o1_1 zz fun nt hdt => ?_; clear zz
 unfold Builtin.SmallTypes.nextOf
 refine wpAny_bind (wpAny_callSpecial?_slot (name := Str.ofString "__next__") T F.slot_tuple_iterator_next (wpAny_call_entry F.slot_tuple_iterator_next T F.entry_tuple_iterator_next ?_ (F.args_tuple_iterator_next_1 _)))
 refine (?_ : wpAny _ _ (field (.ref it) 0 >>= _) _ _ s)
 refine wpAny_bind (wpAny_field ho hd (x := .ref t) rfl ?_)
 refine (?_ : wpAny _ _ (field (.ref it) 1 >>= _) _ _ s)
 refine wpAny_bind (wpAny_field ho hd (x := .int i 0) rfl ?_)
 refine (?_ : wpAny _ _ (seqItems? (.ref t) >>= _) _ _ s)
 refine wpAny_bind (wpAny_seqItems hot hdt ?_)
 simp only [Int.toNat_natCast, hx]
 refine wpAny_bind (wpAny_rule (wpAny_bind (wpAny_setField ho hd (by simp) ?_)))
 refine (?_ : wpAny _ _ (newExc (.type "StopIteration") [] >>= _) _ _ _)
 refine wpAny_bind ?_
 simp only [newExc, newTuple]
 refine wpAny_bind (wpAny_newObj_type ?_ (by size_fits))
 refine wpAny_bind (m := firstArgMember _ _) (wpAny_of_eq (a := Value.none) (by first | rfl | (simp only [firstArgMember]; rfl)) ?_)
 refine wpAny_newObj_type ?_ (by size_fits)
 simp only [raiseNew]
 refine wpAny_bind (wpAny_handled ?_)
 first | rw [show A.in1.handled = none from hh] | rw [hh]
 refine wpAny_bind (wpAny_pure (wpAny_throw ?_))
 exact hE _ _ (((Heap.SameBut.update ..).extBut.push _).push _) (i1_2 _ (Heap.get?_push_size _ rfl) rfl)
structure At (z TI TO i1 i2 l1 l2 : Addr) (xs ys : Array Value) (i : Nat) (f0 : Value) (h : Heap) : Prop where
 z : IsZip h z TI TO f0
 TI : IsPair h TI (.ref i1) (.ref i2)
 TO : ∃ a b, IsPair h TO a b
 i1 : h.IsTupleIter i1 l1 i
 i2 : h.IsTupleIter i2 l2 i
 l1 : h.IsTuple l1 xs
 l2 : h.IsTuple l2 ys
variable {z TI TO i1 i2 l1 l2 : Addr} {xs ys : Array Value} {i : Nat}
theorem At.frame {h h' : Heap} {f0 : Value} (x : At z TI TO i1 i2 l1 l2 xs ys i f0 h) (k : ∀ b, b = z ∨ b = TI ∨ b = TO ∨ b = i1 ∨ b = i2 ∨ b = l1 ∨ b = l2 → ∀ o, h.get? b = some o → h'.get? b = some o) : At z TI TO i1 i2 l1 l2 xs ys i f0 h' := by
 refine o2_1 x.TO fun a b e => ?_
 exact ⟨k _ (.inl rfl) _ x.z, k _ (.inr (.inl rfl)) _ x.TI, (i2_1 a b (k _ (.inr (.inr (.inl rfl))) _ e)), x.i1.at fun o e => k _ (by simp) o e, x.i2.at fun o e => k _ (by simp) o e,
  (o1_2 x.l1 fun o e r => ⟨o, k _ (by simp) _ e, r⟩), (o1_2 x.l2 fun o e r => ⟨o, k _ (by simp) _ e, r⟩)⟩
theorem next_item {x y : Value} {Q : Value → Shared → Prop} (D : ZipApart z TI TO i1 i2 l1 l2) (X : At z TI TO i1 i2 l1 l2 xs ys i .none s.heap) (hx : xs[i]? = some x) (hy : ys[i]? = some y)
  (hQ : ∀ h', At z TI TO i1 i2 l1 l2 xs ys (i + 1) (rawInt s.heap.objs.size) h' → IsPair h' s.heap.objs.size x y → (∀ c o, c ≠ z → c ≠ TO → c ≠ i1 → c ≠ i2 → s.heap.get? c = some o → h'.get? c = some o) → Q (.ref s.heap.objs.size) { s with heap := h' }) :
  wpAny (model prog w) A (Builtin.«zip.__next__» ⟨[.ref z], []⟩) (fun fin s' => ∃ v, fin = .done (.ret v) ∧ Q v s') E s := by
 refine (?_ : wpAny _ _ (field (.ref z) 2 >>= _) _ _ _)
 refine wpAny_bind (wpAny_field X.z rfl (x := .bool false) rfl ?_)
 refine (?_ : wpAny _ _ (field (.ref z) 3 >>= _) _ _ _)
 refine wpAny_bind (wpAny_field X.z rfl (x := .ref TI) rfl ?_)
 refine wpAny_bind (wpAny_seqItems X.TI rfl ?_)
 refine (?_ : wpAny _ _ (Builtin.SmallTypes.ownedTupleIsFree (.ref z) >>= _) _ _ _)
 refine wpAny_bind ?_
 unfold Builtin.SmallTypes.ownedTupleIsFree
 refine wpAny_bind (wpAny_field X.z rfl (x := .none) rfl (wpAny_pure ?_))
 simp only [if_true]
 refine wpAny_bind (wpAny_rule ?_)
 refine wpAny_bind (wpAny_field X.z rfl (x := .ref TO) rfl ?_)
 refine wpAny_bind (wpAny_setField_rec X.z (by simp) fun h₁ hz₁ hs₁ => ?_)
 have X₁ : At z TI TO i1 i2 l1 l2 xs ys i .ellipsis h₁ := by
  refine o2_1 X.TO fun a b e => ?_
  exact ⟨hz₁, hs₁.extBut _ _ D.TIz X.TI, (i2_1 a b (hs₁.extBut _ _ D.TOz e)), X.i1.extBut hs₁.extBut D.i1z, X.i2.extBut hs₁.extBut D.i2z, X.l1.extBut hs₁.extBut D.l1z, X.l2.extBut hs₁.extBut D.l2z⟩
 refine wpAny_bind ?_
 simp only [List.zipIdx_cons, List.zipIdx_nil, List.forIn_cons, List.forIn_nil]
 refine wpAny_bind (wpAny_bind (wpAny_onRaise ?_))
 refine (?_ : wpAny _ _ (Builtin.SmallTypes.nextOf (.ref i1) >>= _) _ _ _)
 refine o2_1 X₁.TO fun a b e0 => ?_
 refine wpAny_bind (draw X₁.i1 X₁.l1 hx fun h₂ q₂ hs₂ => wpAny_pure ?_)
 have e2 : IsPair h₂ TO a b := hs₂.extBut _ _ D.TOi1 e0
 refine wpAny_bind (wpAny_seqItems e2 rfl ?_)
 refine wpAny_bind (wpAny_updateSeq_pair e2 fun h₃ e3 hs₃ => ?_)
 replace e3 : IsPair h₃ TO x b := e3
 refine wpAny_bind (wpAny_letGo (wpAny_pure ?_))
 refine wpAny_bind (wpAny_bind (wpAny_onRaise ?_))
 refine (?_ : wpAny _ _ (Builtin.SmallTypes.nextOf (.ref i2) >>= _) _ _ _)
 refine wpAny_bind (draw ((X₁.i2.extBut hs₂.extBut D.i12.symm).extBut hs₃.extBut D.TOi2.symm) ((X₁.l2.extBut hs₂.extBut D.l2i1).extBut hs₃.extBut D.l2TO) hy fun h₄ q₄ hs₄ => wpAny_pure ?_)
 have e4 : IsPair h₄ TO x b := hs₄.extBut _ _ D.TOi2 e3
 refine wpAny_bind (wpAny_seqItems e4 rfl ?_)
 refine wpAny_bind (wpAny_updateSeq_pair e4 fun h₅ e5 hs₅ => ?_)
 replace e5 : IsPair h₅ TO x y := e5
 refine wpAny_bind (wpAny_letGo (wpAny_pure (wpAny_pure ?_)))
 refine wpAny_bind (wpAny_seqItems e5 rfl ?_)
 refine wpAny_bind (wpAny_newTuple ?_)
 have hsz : h₅.objs.size = s.heap.objs.size := by rw [hs₅.1, hs₄.1, hs₃.1, hs₂.1, hs₁.1]
 have k₅ : ∀ c o, c ≠ TO → c ≠ i1 → c ≠ i2 → h₁.get? c = some o → h₅.get? c = some o := fun c o c2 c3 c4 e => hs₅.extBut _ _ c2 (hs₄.extBut _ _ c4 (hs₃.extBut _ _ c2 (hs₂.extBut _ _ c3 e)))
 have X₅ : At z TI TO i1 i2 l1 l2 xs ys (i + 1) .ellipsis h₅ :=
  ⟨k₅ _ _ D.TOz.symm D.i1z.symm D.i2z.symm X₁.z, k₅ _ _ D.TITO D.TIi1 D.TIi2 X₁.TI, (i2_1 _ _ e5), ((q₂.extBut hs₃.extBut D.TOi1.symm).extBut hs₄.extBut D.i12).extBut hs₅.extBut D.TOi1.symm, q₄.extBut hs₅.extBut D.TOi2.symm,
   (o1_2 X₁.l1 fun o e r => ⟨o, k₅ _ _ D.l1TO D.l1i1 D.l1i2 e, r⟩), (o1_2 X₁.l2 fun o e r => ⟨o, k₅ _ _ D.l2TO D.l2i1 D.l2i2 e, r⟩)⟩
 refine (?_ : wpAny _ _ (Builtin.SmallTypes.ownedTupleHandOut (.ref z) (.ref h₅.objs.size) >>= _) _ _ _)
 refine wpAny_bind ?_
 unfold Builtin.SmallTypes.ownedTupleHandOut
 have hz₆ : IsZip (h₅.push { cls := .type "tuple", data := .seq #[x, y] }) z TI TO .ellipsis := Heap.get?_push_of_some _ X₅.z
 refine wpAny_bind (wpAny_setField_rec hz₆ (by simp) fun h₇ hz₇ hs₇ => ?_)
 replace hz₇ : IsZip h₇ z TI TO (rawInt h₅.objs.size) := hz₇
 refine wpAny_setField_rec hz₇ (by simp) fun h₈ hz₈ hs₈ => ?_
 replace hz₈ : IsZip h₈ z TI TO (rawInt h₅.objs.size) := hz₈
 have up : ∀ c o, c ≠ z → h₅.get? c = some o → h₈.get? c = some o := fun c o c1 e => hs₈.extBut _ _ c1 (hs₇.extBut _ _ c1 (Heap.get?_push_of_some _ e))
 have nz : h₅.objs.size ≠ z := Nat.ne_of_gt (Heap.lt_size X₅.z)
 have p₈ : IsPair h₈ h₅.objs.size x y := hs₈.extBut _ _ nz (hs₇.extBut _ _ nz (Heap.get?_push_size _ rfl))
 refine wpAny_pure (i1_2 _ rfl ?_)
 rw [hsz] at hz₈ p₈
 refine (?_ : Q (.ref h₅.objs.size) _)
 rw [hsz]
 exact hQ h₈ ⟨hz₈, up _ _ D.TIz X₅.TI, (i2_1 _ _ (up _ _ D.TOz e5)), X₅.i1.at fun o e => up _ o D.i1z e, X₅.i2.at fun o e => up _ o D.i2z e, (o1_2 X₅.l1 fun o e r => ⟨o, up _ _ D.l1z e, r⟩), (o1_2 X₅.l2 fun o e r => ⟨o, up _ _ D.l2z e, r⟩)⟩ p₈
  fun c o c1 c2 c3 c4 e => up c o c1 (k₅ c o c2 c3 c4 (hs₁.extBut _ _ c1 e))
theorem next_end {Q : PySem.Fin → Shared → Prop} (hh : A.handled = none) (D : ZipApart z TI TO i1 i2 l1 l2) (X : At z TI TO i1 i2 l1 l2 xs ys i .none s.heap) (hx : xs[i]? = none)
  (hE : ∀ h' e, (∀ c o, c ≠ z → c ≠ TO → c ≠ i1 → c ≠ i2 → s.heap.get? c = some o → h'.get? c = some o) → (∃ o, h'.get? e = some o ∧ o.cls = .type "StopIteration") → E (.ref e) { s with heap := h' }) :
  wpAny (model prog w) A (Builtin.«zip.__next__» ⟨[.ref z], []⟩) Q E s := by
 refine (?_ : wpAny _ _ (field (.ref z) 2 >>= _) _ _ _)
 refine wpAny_bind (wpAny_field X.z rfl (x := .bool false) rfl ?_)
 refine (?_ : wpAny _ _ (field (.ref z) 3 >>= _) _ _ _)
 refine wpAny_bind (wpAny_field X.z rfl (x := .ref TI) rfl ?_)
 refine wpAny_bind (wpAny_seqItems X.TI rfl ?_)
 refine (?_ : wpAny _ _ (Builtin.SmallTypes.ownedTupleIsFree (.ref z) >>= _) _ _ _)
 refine wpAny_bind ?_
 unfold Builtin.SmallTypes.ownedTupleIsFree
 refine wpAny_bind (wpAny_field X.z rfl (x := .none) rfl (wpAny_pure ?_))
 simp only [if_true]
 refine wpAny_bind (wpAny_rule ?_)
 refine wpAny_bind (wpAny_field X.z rfl (x := .ref TO) rfl ?_)
 refine wpAny_bind (wpAny_setField_rec X.z (by simp) fun h₁ hz₁ hs₁ => ?_)
 have X₁ : At z TI TO i1 i2 l1 l2 xs ys i .ellipsis h₁ := by
  refine o2_1 X.TO fun a b e => ?_
  exact ⟨hz₁, hs₁.extBut _ _ D.TIz X.TI, (i2_1 a b (hs₁.extBut _ _ D.TOz e)), X.i1.extBut hs₁.extBut D.i1z, X.i2.extBut hs₁.extBut D.i2z, X.l1.extBut hs₁.extBut D.l1z, X.l2.extBut hs₁.extBut D.l2z⟩
 refine wpAny_bind ?_
 simp only [List.zipIdx_cons, List.zipIdx_nil, List.forIn_cons, List.forIn_nil]
 refine wpAny_bind (wpAny_bind (wpAny_onRaise ?_))
 refine (?_ : wpAny _ _ (Builtin.SmallTypes.nextOf (.ref i1) >>= _) _ _ _)
 refine wpAny_bind (draw_end hh X₁.i1 X₁.l1 hx fun h₂ e hs₂ he => ?_)
 refine o1_2 he fun oe hoe hce => ?_; clear he
 have z₂ : IsZip h₂ z TI TO .ellipsis := hs₂ _ _ D.i1z.symm X₁.z
 have hez : e ≠ z := fun q => by subst q; rw [z₂] at hoe; cases hoe; simp at hce
 refine wpAny_setField_rec z₂ (by simp) fun h₃ _ hs₃ => hE h₃ e (fun c o c1 _ c3 _ q => hs₃.extBut _ _ c1 (hs₂ _ _ c3 (hs₁.extBut _ _ c1 q))) (i1_2 oe (hs₃.extBut _ _ hez hoe) hce)
theorem walks (hh : A.handled = none) (D : ZipApart z TI TO i1 i2 l1 l2) (hs : xs.size = ys.size) :
  WalksU prog w A z [z, TI, TO, i1, i2, l1, l2] [z, TO, i1, i2] xs.size (fun i vals => ∃ x y, xs[i]? = some x ∧ ys[i]? = some y ∧ vals = #[x, y])
   (fun i h => At z TI TO i1 i2 l1 l2 xs ys i .none h) (fun i T h => At z TI TO i1 i2 l1 l2 xs ys (i + 1) (rawInt T) h ∧ T ≠ z ∧ T ≠ TO ∧ T ≠ i1 ∧ T ≠ i2) where
 sub := fun c hc => by simp at hc ⊢; rcases hc with rfl | rfl | rfl | rfl <;> simp
 frame := fun i h h' X k => X.frame fun b hb => k b (by simpa using hb)
 item := fun i s Q E hi X hQ => by
  have hy : i < ys.size := hs ▸ hi
  have hT : s.TypeIs (.ref z) "zip" := ⟨_, X.z, rfl⟩
  unfold pyNext
  refine wpAny_bind (wpAny_attempt (wpAny_callSpecial?_slot (name := Str.ofString "__next__") hT F.slot_zip_next (wpAny_call_entry F.slot_zip_next hT F.entry_zip_next
   (next_item D X (Array.getElem?_eq_getElem hi) (Array.getElem?_eq_getElem hy) fun h' X' p k => ?_) (F.args_zip_next_1 _))))
  have lt : ∀ {c o}, s.heap.get? c = some o → s.heap.objs.size ≠ c := fun e => Nat.ne_of_gt (Heap.lt_size e)
  refine o2_1 X.TO fun a b e0 => ?_
  refine wpAny_pure (hQ s.heap.objs.size #[xs[i], ys[i]] h' s.toks (i2_3 _ _ (Array.getElem?_eq_getElem hi) (Array.getElem?_eq_getElem hy) rfl) ⟨_, p, rfl, _, rfl⟩
   ⟨X', lt X.z, lt e0, (by refine o1_2 X.i1 fun _ e _ => ?_; exact lt e), (by refine o1_2 X.i2 fun _ e _ => ?_; exact lt e)⟩ fun c o hc e => k c o (fun q => hc (by simp [q])) (fun q => hc (by simp [q])) (fun q => hc (by simp [q])) (fun q => hc (by simp [q])) e)
 go := fun elts k pos i T s Q E zz hQ => o0_2 zz fun X _ => by
  refine wpAny_letOwnedTupleGo_zip X.z fun h' hz' hs' => hQ h' ?_ fun c o hc e => hs'.extBut _ _ (fun q => hc (by simp [q])) e
  refine o2_1 X.TO fun a b e => ?_
  exact ⟨hz', hs'.extBut _ _ D.TIz X.TI, (i2_1 a b (hs'.extBut _ _ D.TOz e)), X.i1.extBut hs'.extBut D.i1z, X.i2.extBut hs'.extBut D.i2z, X.l1.extBut hs'.extBut D.l1z, X.l2.extBut hs'.extBut D.l2z⟩
 apart := fun i T h zz hT => o0_5 zz fun _ t1 t2 t3 t4 => by
  simp at hT
  rcases hT with q | q | q | q
  ·exact t1 q
  ·exact t2 q
  ·exact t3 q
  ·exact t4 q
 done := fun s Q E X hQ => by
  have hT : s.TypeIs (.ref z) "zip" := ⟨_, X.z, rfl⟩
  unfold pyNext
  refine wpAny_bind (wpAny_attempt (wpAny_callSpecial?_slot (name := Str.ofString "__next__") hT F.slot_zip_next (wpAny_call_entry F.slot_zip_next hT F.entry_zip_next
   (next_end hh D X (Array.getElem?_eq_none (Nat.le_refl _)) fun h' e hk he => ?_) (F.args_zip_next_1 _))))
  refine o1_2 he fun o ho hc => ?_; clear he
  refine wpAny_bind (wpAny_isInstance (T := "StopIteration") (b := true) ⟨o, ho, hc⟩ isSubtype_stop ?_)
  exact wpAny_pure (hQ _ s.toks fun c o hc e => hk c o (fun q => hc (by simp [q])) (fun q => hc (by simp [q])) (fun q => hc (by simp [q])) (fun q => hc (by simp [q])) e)
 self := fun i s Q E X hQ => wpAny_pyIter_zip X.z hQ
end
end Zt
end Mine
end
section
open PySem PySem.W PyProof.Rows
namespace Mine
namespace Zt
abbrev k1 (h : Heap) (l1 : Addr) : Heap := h.push { cls := .type "tuple_iterator", data := .fields #[.ref l1, .int 0 0] }
abbrev k2 (h : Heap) (l1 l2 : Addr) : Heap := (k1 h l1).push { cls := .type "tuple_iterator", data := .fields #[.ref l2, .int 0 0] }
abbrev k3 (h : Heap) (l1 l2 : Addr) : Heap := (k2 h l1 l2).push { cls := .type "tuple", data := .seq #[.ref h.objs.size, .ref (k1 h l1).objs.size] }
abbrev k4 (h : Heap) (l1 l2 : Addr) : Heap := (k3 h l1 l2).push { cls := .type "tuple", data := .seq #[.none, .none] }
abbrev k5 (h : Heap) (l1 l2 : Addr) : Heap := (k4 h l1 l2).push { cls := .type "zip", data := .fields #[.none, .bool false, .bool false, .ref (k2 h l1 l2).objs.size, .ref (k3 h l1 l2).objs.size] }
theorem meets_new (l1 l2 : Addr) (xs ys : Array Value) :
  Meets (Builtin.«zip.__new__» ⟨[.type "zip", .ref l1, .ref l2], []⟩) (fun _ R s => s.heap.IsTuple l1 xs ∧ s.heap.IsTuple l2 ys ∧ R (.ok (.ret (.ref (k4 s.heap l1 l2).objs.size))) { s with heap := k5 s.heap l1 l2 }) :=
 .of_wp fun prog w A R s h => by
  obtain ⟨hp, g, d, tk, os⟩ := s; refine o0_3 h ?_; clear h; intro hl1 hl2 h
  have hsub := sub_zip
  have hL1 : Heap.IsTuple (Shared.heap ⟨hp, g, d, tk, os⟩) l1 xs := hl1
  have hL2 : Heap.IsTuple (Shared.heap ⟨hp.push { cls := .type "tuple_iterator", data := .fields #[.ref l1, .int 0 0] }, g, d, tk, os⟩) l2 ys := Heap.IsTuple.push hl2 _
  wp_walk using wpAny_pyIter_tuple hL1, wpAny_pyIter_tuple hL2
  exact (i1_2 _ rfl h)
section
variable {prog : Program} {w : World} {A : Around} {E : Value → Shared → Prop} {s : Shared}
theorem make {l1 l2 : Addr} {xs ys : Array Value} {Q : Value → Shared → Prop} (hl1 : s.heap.IsTuple l1 xs) (hl2 : s.heap.IsTuple l2 ys)
  (h : ∀ h', ZipApart (s.heap.objs.size + 4) (s.heap.objs.size + 2) (s.heap.objs.size + 3) s.heap.objs.size (s.heap.objs.size + 1) l1 l2 →
   At (s.heap.objs.size + 4) (s.heap.objs.size + 2) (s.heap.objs.size + 3) s.heap.objs.size (s.heap.objs.size + 1) l1 l2 xs ys 0 .none h' → h'.objs.size = s.heap.objs.size + 5 → HLeF s.heap h' → Q (.ref (s.heap.objs.size + 4)) { s with heap := h' }) :
  wpAny (model prog w) A (call (.type "zip") [.ref l1, .ref l2]) Q E s := by
 refine callType_new F.called_zip (by decide) (F.typeCall_zip_2 _ _) (F.newCall_zip_2 _ _) (fun obj => F.args_object_init_3 obj _ _) F.entry_zip_new (meets_new l1 l2 xs ys) ⟨hl1, hl2, ?_⟩
 have z1 : (k1 s.heap l1).objs.size = s.heap.objs.size + 1 := Heap.size_push ..
 have z2 : (k2 s.heap l1 l2).objs.size = s.heap.objs.size + 2 := by rw [Heap.size_push, z1]
 have z3 : (k3 s.heap l1 l2).objs.size = s.heap.objs.size + 3 := by rw [Heap.size_push, z2]
 have z4 : (k4 s.heap l1 l2).objs.size = s.heap.objs.size + 4 := by rw [Heap.size_push, z3]
 have z5 : (k5 s.heap l1 l2).objs.size = s.heap.objs.size + 5 := by rw [Heap.size_push, z4]
 have up : HLeF s.heap (k5 s.heap l1 l2) := fun c o x => Heap.get?_push_of_some _ (Heap.get?_push_of_some _ (Heap.get?_push_of_some _ (Heap.get?_push_of_some _ (Heap.get?_push_of_some _ x))))
 have g5 : (k5 s.heap l1 l2).get? (k4 s.heap l1 l2).objs.size = some _ := Heap.get?_push_size _ rfl
 have g4 : (k5 s.heap l1 l2).get? (k3 s.heap l1 l2).objs.size = some _ := Heap.get?_push_of_some _ (Heap.get?_push_size _ rfl)
 have g3 : (k5 s.heap l1 l2).get? (k2 s.heap l1 l2).objs.size = some _ := Heap.get?_push_of_some _ (Heap.get?_push_of_some _ (Heap.get?_push_size _ rfl))
 have g2 : (k5 s.heap l1 l2).get? (k1 s.heap l1).objs.size = some _ := Heap.get?_push_of_some _ (Heap.get?_push_of_some _ (Heap.get?_push_of_some _ (Heap.get?_push_size _ rfl)))
 have g1 : (k5 s.heap l1 l2).get? s.heap.objs.size = some _ := Heap.get?_push_of_some _ (Heap.get?_push_of_some _ (Heap.get?_push_of_some _ (Heap.get?_push_of_some _ (Heap.get?_push_size _ rfl))))
 rw [z2, z3, z4] at g5
 rw [z1, z2] at g3
 rw [z3] at g4
 rw [z1] at g2
 refine (?_ : _ ∧ _)
 rw [z4]
 have a1 : l1 < s.heap.objs.size := by refine o1_2 hl1 fun _ e _ => ?_; clear hl1; exact Heap.lt_size e
 have a2 : l2 < s.heap.objs.size := by refine o1_2 hl2 fun _ e _ => ?_; clear hl2; exact Heap.lt_size e
 exact ⟨⟨_, g5, rfl⟩, h _ (zipApart_new a1 a2) ⟨g5, g3, (i2_1 _ _ g4), ⟨_, g1, rfl, rfl⟩, ⟨_, g2, rfl, rfl⟩, (o1_2 hl1 fun o e r => ⟨o, up _ _ e, r⟩), (o1_2 hl2 fun o e r => ⟨o, up _ _ e, r⟩)⟩ z5 up⟩
end
end Zt
end Mine
end
section
open PySem PySem.W PyProof.Rows
namespace Mine
variable {W : Wd} {n : Nat} {env : Env} {wr : List Str} {σ : Sto}
inductive Wd.Code (W : Wd) (cd : Value) : Prop where
 | mk : ∀ c o vs file tf flags tg inF text tt, cd = .ref c → W.h₀.get? c = some o → o.cls = .type "code" → o.data = .fields vs → vs[11]? = some (.ref W.P) → vs.getD 18 .none = .str file tf →
  vs.getD 7 .none = .int flags tg → vs.getD 9 .none = .bool inF → vs.getD 10 .none = .int text tt → W.Code cd
theorem Wd.Code.is {cd : Value} (x : W.Code cd) {h : Heap} (k : ∀ b o, W.h₀.get? b = some o → h.get? b = some o) (p : W.Pl h) : ∃ c ps more, cd = .ref c ∧ h.IsCode c W.P ps ∧ h.TableAt c W.P ps ∧ ps = W.tab ++ more := by
 obtain ⟨c, o, vs, file, tf, flags, tg, inF, text, tt, e, a1, a0, a2, a3, a4, a5, a6, a7⟩ := x
 refine o2_5 p fun op ps b1 b2 b3 b4 zz => ?_; clear p; refine o1_1 zz fun more b5 => ?_; clear zz
 subst b4
 exact (i3_4 c ps more e ⟨o, vs, file, tf, flags, tg, inF, text, tt, _, k _ _ a1, a2, by rw [Array.getD_eq_getD_getElem?, a3]; rfl, a4, a5, a6, a7, b1, b2, b3, W.neP a1⟩ ⟨(i2_4 o vs (k _ _ a1) a0 a2 a3), b1⟩ b5)
theorem Wd.Pl.ofCode {h : Heap} {c : Addr} {ps more : Array Value} (x : h.IsCode c W.P ps) (y : h.TableAt c W.P ps) (z : ps = W.tab ++ more) : W.Pl h := by
 refine o10_11 x fun o vs file tf flags tg inF text tt op a1 a2 a3 a4 a5 a6 a7 b1 b2 b3 _ => ?_; clear x
 have := y.2
 rw [b1] at this; cases this
 exact ⟨_, ps, b1, b2, b3, rfl, more, z⟩
theorem genexprT {M : Model} {A : Around} {E : Value → Shared → Prop} {s : Shared} {env : Env} {c P : Addr} {ps : Array Value} {pos : Pos} {qualname : Str} {scope : Scope} {Q : Value → Shared → Prop} (hc : env.code = .ref c) (hok : s.heap.IsCode c P ps) (ht : s.heap.TableAt c P ps)
  (hQ : ∀ code h' tk more, Heap.ExtBut P s.heap h' → h'.IsCode c P (ps ++ more) → h'.TableAt c P (ps ++ more) → Q code { s with heap := h', toks := tk }) : wpAny M A (genexprCode env pos qualname scope) Q E s := by
 cases hnf : codeAmong pos ps.toList with
 | some cv =>
  have := hQ cv s.heap s.toks #[] (.refl _ _) (by rw [Array.append_empty]; exact hok) (by rw [Array.append_empty]; exact ht)
  exact wpAny_genexprCode_hit hc hok hnf this
 | none => exact wpAny_genexprCodeX hc hok ht hnf fun c' h' tk hx _ _ h1 _ h2 _ => hQ _ _ _ _ hx h1 h2
theorem pair_inv {G : PH} {a b : Int} {v : Value} (r : Rep W G (.tuple [.int a, .int b]) v) : ∃ t o n ta tb, v = .ref t ∧ G t = some o ∧ o.cls = .type "tuple" ∧ o.data = .seq #[.int a ta, .int b tb] n := by
 refine o4_5 r fun t o vs n e g hc hd rs => ?_; clear r
 refine o2_3 rs.inv2 fun x y e2 rx ry => ?_
 refine o1_1 rx.int_inv fun ta zb => ?_; obtain rfl := zb; refine o1_1 ry.int_inv fun tb zb => ?_; obtain rfl := zb
 have : vs = #[.int a ta, .int b tb] := Array.toList_inj.mp e2
 subst this
 exact (i5_4 t o n ta tb e g hc hd)
theorem zipEval {A : Around} {N : Addr → Prop} {K G : PH} {s : Shared} {e1 e2 : Expr} {pz zpos : Pos} {Q : Value → Shared → Prop} {X : PV → PV → Sto → Prop} (R : Room A n) (S : St W N K G env wr σ s) (hZ : W.Top "zip" (.type "zip"))
  (hgZ : env.kindOf "zip" = some .globalImplicit) (hb : env.builtins = builtinsNs) (hn1 : isStarred e1 = false) (hn2 : isStarred e2 = false)
  (h : Ev W n env wr e1 σ fun p σ₁ => Ev W n env wr e2 σ₁ fun q σ₂ => X p q σ₂)
  (k : ∀ v1 v2 p q σ₂ G₂ s₂, G.Le G₂ → St W N K G₂ env wr σ₂ s₂ → Rep W G₂ p v1 → Rep W G₂ q v2 → X p q σ₂ → wpAny W.M A (call (.type "zip") [v1, v2]) Q NoE s₂) :
  wpAny W.M A (eval (.Call (.Name "zip" pz) [e1, e2] [] zpos) env) Q NoE s := by
 refine (?_ : wpAny W.M A (do callWith zpos (← eval (.Name "zip" pz) env) [] (backTo zpos (starEach [e1, e2] env)) (backToKw zpos (keywordEach [] env))) _ _ s)
 have hgt : Ev W n env wr (.Name "zip" pz) σ (fun p σ₁ => p = .val (.type "zip") ∧ σ₁ = σ) := Ev.glob hgZ hb hZ ⟨rfl, rfl⟩
 refine wpAny_bind (bE (hgt A N K G s R S) fun v p σ₁ G₁ s₁ g₁ S₁ r₁ zz => o0_2 zz fun q1 q2 => ?_)
 subst q1 q2
 have := r₁.val_inv; subst this
 refine callWith_of (P := fun _ => True) (by rw [starEach_cons hn1, starEach_cons hn2]; rfl) (fun hh _ => (i1_2 .machine (.inr (.inl rfl)) (fun _ _ _ _ _ q => wpAny_pure q))) ?_
 suffices key : wpAny W.M A (spliced (backTo zpos (starEach [e1, e2] env))) (fun vs s₁ => True ∧ wpAny W.M A (call (.type "zip") ([] ++ vs)) Q NoE s₁) NoE s₁ by
  have e3 := starEach_cons (env := env) (r := [e2]) (e := e1) hn1
  rw [e3] at key ⊢
  exact Calls.evalArgs_plain key
 refine wpAny_items_cons ?_ (starEach_cons hn1)
 refine bE (h A N K G₁ s₁ R S₁) fun v1 p1 σ₁ G₂ s₂ g₂ S₂ r₂ h₂ => ?_
 refine wpAny_items_cons ?_ (starEach_cons hn2)
 refine bE (h₂ A N K G₂ s₂ R S₂) fun v2 p2 σ₂ G₃ s₃ g₃ S₃ r₃ h₃ => ?_
 refine wpAny_items_nil ⟨trivial, ?_⟩
 exact k v1 v2 p1 p2 σ₂ G₃ s₃ ((g₁.trans g₂).trans g₃) S₃ (Rep.mono g₃ _ _ r₂) r₃ h₃
theorem Ev.tupZip {e1 e2 : Expr} {xa xb : Str} {px pz pa pb pa1 pb1 pt bpos zpos gpos pos : Pos} {kt : Nat} {scope : Scope} {bm : Addr} {ob : Obj} {Ψ : PV → Sto → Prop}
  (hT : W.Top "tuple" (.type "tuple")) (hZ : W.Top "zip" (.type "zip")) (hc : W.Code env.code) (hB : BMod W.h₀ mainGlobals W.mg bm ob)
  (h : Ev W n env wr e1 σ fun p σ₁ => Ev W n env wr e2 σ₁ fun q σ₂ => ∃ a0 a1 b0 b1 : Int, p = .tuple [.int a0, .int a1] ∧ q = .tuple [.int b0, .int b1] ∧ Ψ (.tuple [.int (a0 + b0), .int (a1 + b1)]) σ₂)
  (hgT : env.kindOf "tuple" = some .globalImplicit := by with_unfolding_all rfl) (hgZ : env.kindOf "zip" = some .globalImplicit := by with_unfolding_all rfl) (hb : env.builtins = builtinsNs := by with_unfolding_all rfl)
  (hn1 : isStarred e1 = false := by with_unfolding_all rfl) (hn2 : isStarred e2 = false := by with_unfolding_all rfl)
  (hco : scope.isCoroutine = false := by with_unfolding_all rfl) (hcl : closCells scope.names env.cells [] = some [] := by with_unfolding_all rfl) (hcell : ∀ y ∈ scope.names, y.2 ≠ .cell := by decide)
  (h0 : scope.names.lookup (".0" : Str) = some NameKind.local := by with_unfolding_all rfl) (hxa : scope.names.lookup xa = some .local := by with_unfolding_all rfl) (hxb : scope.names.lookup xb = some .local := by with_unfolding_all rfl)
  (hab : xa ≠ xb := by decide) (hkind : scope.kind = .function := by with_unfolding_all rfl) (hd1 : (xa == ("__debug__" : Str)) = false := by decide) (hd2 : (xb == ("__debug__" : Str)) = false := by decide)
  (hs : ∀ x, genFold (.Call (.Name "zip" pz) [e1, e2] [] zpos) env x = pure x := by intro _; with_unfolding_all rfl) :
  Ev W n env wr (.Call (.Name "tuple" px) [.GeneratorExp (.BinOp (.Name xa pa1) .Add (.Name xb pb1) bpos) [⟨.Tuple [.Name xa pa, .Name xb pb] kt pt, .Call (.Name "zip" pz) [e1, e2] [] zpos, [], 0⟩] scope gpos] [] pos) σ Ψ := fun A N K G s R S => by
 refine (?_ : wpAny W.M A (do callWith pos (← eval (.Name "tuple" px) env) [] (backTo pos (starEach [.GeneratorExp (.BinOp (.Name xa pa1) .Add (.Name xb pb1) bpos) [⟨.Tuple [.Name xa pa, .Name xb pb] kt pt, .Call (.Name "zip" pz) [e1, e2] [] zpos, [], 0⟩] scope gpos] env)) (backToKw pos (keywordEach [] env))) _ _ s)
 have hgt : Ev W n env wr (.Name "tuple" px) σ (fun p σ₁ => p = .val (.type "tuple") ∧ σ₁ = σ) := Ev.glob hgT hb hT ⟨rfl, rfl⟩
 refine wpAny_bind (bE (hgt A N K G s R S) fun v p σ₁ G₁ s₁ g₁ S₁ r₁ zz => o0_2 zz fun q1 q2 => ?_)
 subst q1 q2
 have := r₁.val_inv; subst this
 have hsg : isStarred (.GeneratorExp (.BinOp (.Name xa pa1) .Add (.Name xb pb1) bpos) [⟨.Tuple [.Name xa pa, .Name xb pb] kt pt, .Call (.Name "zip" pz) [e1, e2] [] zpos, [], 0⟩] scope gpos) = false := rfl
 refine callWith_of (P := fun _ => True) (by rw [starEach_cons hsg]; rfl) (fun hh _ => (i1_2 .machine (.inr (.inl rfl)) (fun _ _ _ _ _ q => wpAny_pure q))) ?_
 suffices key : wpAny W.M A (spliced (backTo pos (starEach [.GeneratorExp (.BinOp (.Name xa pa1) .Add (.Name xb pb1) bpos) [⟨.Tuple [.Name xa pa, .Name xb pb] kt pt, .Call (.Name "zip" pz) [e1, e2] [] zpos, [], 0⟩] scope gpos] env)))
   (fun vs s₁ => True ∧ wpAny W.M A (PySem.call (.type "tuple") ([] ++ vs)) (EPost W N K G env wr Ψ) NoE s₁) NoE s₁ by
  have e3 := starEach_cons (env := env) (r := []) hsg
  rw [e3] at key ⊢
  exact Calls.evalArgs_plain key
 refine wpAny_items_cons ?_ (starEach_cons hsg)
 refine wpAny_GeneratorExp_walksQT R.handled hco (closureFor_of hcl) hcell h0 hxa hxb hab hkind (by have := R.depth; show A.depth < 1000; omega) ?_ hs
 refine zipEval R S₁ hZ hgZ hb hn1 hn2 h fun v1 v2 p1 p2 σ₂ G₂ s₂ g₂ S₂ r₁ r₂ zz => o4_3 zz fun a0 a1 b0 b1 q1 q2 hΨ => ?_
 subst q1 q2
 refine o5_4 (pair_inv r₁) fun t1 o1 n1 ta0 ta1 zf gt1 c1 d1 => ?_; obtain rfl := zf
 refine o5_4 (pair_inv r₂) fun t2 o2 n2 tb0 tb1 zf gt2 c2 d2 => ?_; obtain rfl := zf
 have L1 : s₂.heap.IsTuple t1 #[.int a0 ta0, .int a1 ta1] := ⟨o1, S₂.gin _ _ gt1, c1, n1, d1⟩
 have L2 : s₂.heap.IsTuple t2 #[.int b0 tb0, .int b1 tb1] := ⟨o2, S₂.gin _ _ gt2, c2, n2, d2⟩
 have H₂ := S₂.hp
 refine Zt.make L1 L2 fun h' D X hsz up => ?_
 have nl' : h'.NoLimit := W.T.nolimit.keeps fun b o e => up _ _ (H₂.base b o e)
 refine wpAny_pyIter_zip X.z ⟨nl', ?_⟩
 refine o3_4 (hc.is (fun b o e => up b o (H₂.base b o e)) (S₂.sd.ps.keep fun o e => up _ o e)) fun c ps more₀ hcd hok htb hpre => ?_
 refine genexprT hcd hok htb fun code h'' tk more₁ hx hok' htb' => ?_
 have k'' : ∀ b o, W.h₀.get? b = some o → h''.get? b = some o := fun b o e => hx b o (W.neP e) (up _ _ (H₂.base b o e))
 have nl'' : h''.NoLimit := W.T.nolimit.keeps k''
 have hB'' := hB.keeps k''
 rw [S.ok.globals]
 refine wpAny_builtinsFor (s := ⟨h'', s₂.gens, s₂.drawn, tk, s₂.os⟩) hB''.ns hB''.name hB''.ne hB''.obj hB''.cls hB''.dict hB''.data ?_
 have ltP : (W.P : Nat) < s₂.heap.objs.size := by refine o2_2 S₂.sd.ps fun o _ e _ => ?_; exact Heap.lt_size e
 have neP : ∀ b : Nat, s₂.heap.objs.size ≤ b → b ≠ W.P := fun b hb q => by
  have : (W.P : Nat) = b := q.symm
  exact absurd this (Nat.ne_of_lt (Nat.lt_of_lt_of_le ltP hb))
 have ne1 : t1 ≠ W.P := fun q => by rw [q, S₂.gP] at gt1; cases gt1
 have ne2 : t2 ≠ W.P := fun q => by rw [q, S₂.gP] at gt2; cases gt2
 have X'' := X.frame (h' := h'') fun b hb o e => hx b o (by
  rcases hb with rfl | rfl | rfl | rfl | rfl | rfl | rfl
  ·exact neP _ (Nat.le_add_right _ _)
  ·exact neP _ (Nat.le_add_right _ _)
  ·exact neP _ (Nat.le_add_right _ _)
  ·exact neP _ (Nat.le_refl _)
  ·exact neP _ (Nat.le_add_right _ _)
  ·exact ne1
  ·exact ne2) e
 have ltS : (cStatics : Nat) < s₂.heap.objs.size := by
  refine o1_2 ((W.T.nolimit.keeps H₂.base : s₂.heap.NoLimit)) fun _ hn _ => ?_
  exact hn.lt
 refine (i9_9 (s₂.heap.objs.size + 4) ([s₂.heap.objs.size + 4, s₂.heap.objs.size + 2, s₂.heap.objs.size + 3, s₂.heap.objs.size, s₂.heap.objs.size + 1, t1, t2]) ([s₂.heap.objs.size + 4, s₂.heap.objs.size + 3, s₂.heap.objs.size, s₂.heap.objs.size + 1]) 2 (fun i vals => ∃ x y, (#[Value.int a0 ta0, Value.int a1 ta1] : Array Value)[i]? = some x ∧ (#[Value.int b0 tb0, Value.int b1 tb1] : Array Value)[i]? = some y ∧ vals = #[x, y]) (fun i h => Zt.At (s₂.heap.objs.size + 4) (s₂.heap.objs.size + 2) (s₂.heap.objs.size + 3) s₂.heap.objs.size (s₂.heap.objs.size + 1) t1 t2 #[Value.int a0 ta0, Value.int a1 ta1] #[Value.int b0 tb0, Value.int b1 tb1] i .none h) (fun i T h => Zt.At (s₂.heap.objs.size + 4) (s₂.heap.objs.size + 2) (s₂.heap.objs.size + 3) s₂.heap.objs.size (s₂.heap.objs.size + 1) t1 t2 #[Value.int a0 ta0, Value.int a1 ta1] #[Value.int b0 tb0, Value.int b1 tb1] (i + 1) (rawInt T) h ∧
   (T : Addr) ≠ (s₂.heap.objs.size + 4 : Nat) ∧ T ≠ (s₂.heap.objs.size + 3 : Nat) ∧ T ≠ s₂.heap.objs.size ∧ T ≠ (s₂.heap.objs.size + 1 : Nat)) (fun _ => true) (fun i y => ∃ t, y = .int ([a0, a1].getD i 0 + [b0, b1].getD i 0) t) rfl (fun A' hA => Zt.walks (xs := #[Value.int a0 ta0, Value.int a1 ta1]) (ys := #[Value.int b0 tb0, Value.int b1 tb1]) hA D rfl) (fun i vals zz => o2_3 zz fun x y _ _ e => (i2_1 x y e)) X'' (fun b hb => ?_) nl'' (fun hb => ?_) (fun href _ => ⟨?_, ?_⟩) (fun a h₅ tk₁ gs hbare hlt hsz5 hk5 Wk GA => ?_))
 ·refine o2_1 X''.TO fun _ _ e0 => ?_
  simp only [List.mem_cons, List.not_mem_nil, or_false] at hb
  rcases hb with rfl | rfl | rfl | rfl | rfl | rfl | rfl
  ·exact Heap.lt_size X''.z
  ·exact Heap.lt_size X''.TI
  ·exact Heap.lt_size e0
  ·refine o1_2 X''.i1 fun _ e _ => ?_; exact Heap.lt_size e
  ·refine o1_2 X''.i2 fun _ e _ => ?_; exact Heap.lt_size e
  ·refine o1_2 X''.l1 fun _ e _ => ?_; exact Heap.lt_size e
  ·refine o1_2 X''.l2 fun _ e _ => ?_; exact Heap.lt_size e
 ·simp only [List.mem_cons, List.not_mem_nil, or_false] at hb
  have : ∀ k : Nat, (cStatics : Nat) ≠ s₂.heap.objs.size + k := fun k => Nat.ne_of_lt (Nat.lt_of_lt_of_le ltS (Nat.le_add_right _ _))
  rcases hb with q | q | q | q
  ·exact this 4 q
  ·exact this 3 q
  ·exact this 0 q
  ·exact this 1 q
 ·intro A' E' i va vb u m₂ hA hp hn q1 q2 hk
  exact wpAny_pure ⟨rfl, u.heap, u.toks, rfl, fun _ _ e => e⟩
 ·intro A' E' i va vb u m₂ hA zz _ hn q1 q2 hk; refine o2_3 zz fun x y hx hy e => ?_; clear zz
  obtain ⟨rfl, rfl⟩ : va = x ∧ vb = y := by simpa using e
  have hla : (genEnv scope [] h''.objs.size code builtinsNs env).kindOf xa = some .local := hxa
  have hlb : (genEnv scope [] h''.objs.size code builtinsNs env).kindOf xb = some .local := hxb
  have key : ∀ (a b : Int) (ta tb : Tok), va = .int a ta → vb = .int b tb → (∃ t, Value.int (a + b) u.toks = .int ([a0, a1].getD i 0 + [b0, b1].getD i 0) t) →
    wpAny (model W.prog W.w) A' (eval ((Expr.Name xa pa1).BinOp Operator.Add (Expr.Name xb pb1) bpos) (genEnv scope [] h''.objs.size code builtinsNs env)) (fun y s₃ => (∃ t, y = .int ([a0, a1].getD i 0 + [b0, b1].getD i 0) t) ∧ PySem.Keeps u s₃) E' u := by
   rintro a b ta tb rfl rfl hF
   refine wpAny_BinOp (wpAny_Name (wpAny_loadName_local hkind hla hn q1 (wpAny_Name (wpAny_loadName_local hkind hlb hn q2 ?_) hd2)) hd1)
   exact add_int ⟨hF, u.heap, _, rfl, fun _ _ e => e⟩
  rcases i with _ | _ | i
  ·simp at hx hy; subst hx; subst hy
   exact key _ _ _ _ rfl rfl ⟨_, rfl⟩
  ·simp at hx hy; subst hx; subst hy
   exact key _ _ _ _ rfl rfl ⟨_, rfl⟩
  ·simp at hx
 ·refine wpAny_items_nil ⟨trivial, ?_⟩
  refine call_tuple_gen (A := A) (WalksS.in4_3 Wk) (fun i s st => st.1.typeIs) GA (fun b hb => ?_) (List.mem_cons_self ..) (fun s' acc hm hacc => ?_) (by show 2 ≤ sizeLine; rw [sizeLine_eq]; decide)
  ·show b < h₅.objs.size
   rw [hsz5]
   rcases List.mem_cons.mp hb with rfl | hb
   ·exact Nat.lt_succ_self _
   ·rcases List.mem_cons.mp hb with rfl | hb
    ·exact Nat.lt_succ_of_lt hlt
    ·exact Nat.lt_trans (List.mem_range.mp hb) (Nat.lt_succ_of_lt hlt)
  ·have newC : ∀ b : Nat, b < s₂.heap.objs.size → b ∉ (h''.objs.size :: [s₂.heap.objs.size + 4, s₂.heap.objs.size + 3, s₂.heap.objs.size, s₂.heap.objs.size + 1] : List Addr) := fun b hb q => by
    have hz : s₂.heap.objs.size + 4 < h''.objs.size := Heap.lt_size X''.z
    simp only [List.mem_cons, List.not_mem_nil, or_false] at q
    rcases q with q | q | q | q | q
    ·exact absurd (show b = h''.objs.size from q) (by omega)
    ·exact absurd (show b = s₂.heap.objs.size + 4 from q) (by omega)
    ·exact absurd (show b = s₂.heap.objs.size + 3 from q) (by omega)
    ·exact absurd (show b = s₂.heap.objs.size from q) (by with_reducible exact Nat.ne_of_lt (by assumption))
    ·exact absurd (show b = s₂.heap.objs.size + 1 from q) (by exact (Om.succF (by assumption) (by assumption)).elim)
   have k₄ : ∀ b o, h''.get? b = some o → (b : Nat) < s₂.heap.objs.size → s'.heap.get? b = some o := fun b o e hb => hm.heap b o (newC b hb) (hk5 b o e)
   have kk : HLe W s₂.heap s'.heap := fun b o nb e => k₄ b o (hx b o nb (up b o e)) (Heap.lt_size e)
   have plS : W.Pl s'.heap := by
    refine o2_3 (Wd.Pl.ofCode (more := more₀ ++ more₁) hok' htb' (by rw [hpre, Array.append_assoc])) fun op pp e1 e2 e3 => ?_
    exact ⟨op, pp, k₄ _ _ e1 ltP, e2, e3⟩
   have Hs : Hp W (fresh G₂ s₂.heap) G₂ s' := by
    refine ⟨fun b o e => kk b o (W.neP e) (H₂.base b o e), S₂.gin.le kk S₂.gP, fun a' zz => o0_2 zz fun zz hg => o1_1 zz fun o e => ⟨?_, hg⟩, hm.os.trans S₂.os, (S₂.gens.push hbare).moved hm.gens, H₂.pl, plS⟩
    by_cases q : a' = W.P
    ·subst q; refine o2_2 plS fun op _ e1 _ => ?_; clear plS; exact ⟨op, e1⟩
    ·exact ⟨o, kk _ _ q e⟩
   refine o0_2 (Hs.push (o := { cls := .type "tuple", data := .seq acc }) rfl) fun Hf gf => ?_
   refine o0_2 hacc fun hsz2 hit => ?_; clear hacc
   have hp2 : (passing (fun _ => true) 2 0) = [0, 1] := by decide
   rw [hp2] at hsz2 hit
   have g0 : ∃ t, acc[0]? = some (.int (a0 + b0) t) := by
    have hlt0 : 0 < acc.size := by rw [hsz2]; decide
    refine o1_2 (hit 0 _ (Array.getElem?_eq_getElem hlt0)) fun i hi zz => ?_; refine o1_1 zz fun t e => ?_; clear zz
    cases hi
    exact ⟨t, by rw [Array.getElem?_eq_getElem hlt0, e]; rfl⟩
   have g1 : ∃ t, acc[1]? = some (.int (a1 + b1) t) := by
    have hlt0 : 1 < acc.size := by rw [hsz2]; decide
    refine o1_2 (hit 1 _ (Array.getElem?_eq_getElem hlt0)) fun i hi zz => ?_; refine o1_1 zz fun t e => ?_; clear zz
    cases hi
    exact ⟨t, by rw [Array.getElem?_eq_getElem hlt0, e]; rfl⟩
   refine o1_1 g0 ?_; clear g0; intro u0 g0
   refine o1_1 g1 ?_; clear g1; intro u1 g1
   have hl : acc.toList = [.int (a0 + b0) u0, .int (a1 + b1) u1] := by
    refine List.ext_getElem? fun k => ?_
    rcases k with _ | _ | k
    ·simpa using g0
    ·simpa using g1
    ·have : acc.toList.length ≤ k + 1 + 1 := by rw [Array.length_toList, hsz2]; show 2 ≤ _; with_reducible exact Nat.le_add_left _ _
     rw [List.getElem?_eq_none this]; rfl
   refine ⟨_, _, σ₂, (g₁.trans g₂).trans gf, S₂.grow Hf gf (kk.trans (HLe.push _ _ _)), ?_, hΨ⟩
   refine i4_5 _ _ acc _ rfl (PH.add_self ..) rfl rfl ?_
   rw [hl]
   exact Reps.cons Rep.i (Reps.cons Rep.i Reps.nil)
end Mine
end
section
open PySem PySem.W PyProof.Rows
namespace Mine
variable {W : Wd} {n : Nat}
theorem Reps.ints {G : PH} : ∀ {is : List Int} {vs : List Value}, Reps W G (is.map .int) vs → ∃ l : List (Int × Tok), vs = l.map (fun p => Value.int p.1 p.2) ∧ l.map (·.1) = is
 | [], vs, h => by obtain rfl := h; exact (i1_2 ([]) rfl rfl)
 | i :: is, vs, h => by
  rw [List.map_cons] at h
  refine o2_3 h fun v r zc h1 h2 => ?_; clear h; obtain rfl := zc
  refine o1_1 h1.int_inv fun t zb => ?_; obtain rfl := zb
  refine o1_2 (Reps.ints h2) fun l zb e => ?_; obtain rfl := zb
  exact (i1_2 ((i, t) :: l) rfl (by simp [e]))
theorem CallP.sumI {is : List Int} {Ψ : PV → Prop} (h : Ψ (.int is.sum)) : CallP W n (.val (.builtin "sum")) [.list (is.map .int)] Ψ := fun A N G s f vs R H rf rv => by
 have := rf.val_inv; subst this; refine o1_2 rv.inv1 fun a zb ra => ?_; obtain rfl := zb
 obtain ⟨l, o, vs, m, rfl, g, hc, hd, rs⟩ := ra.list_inv
 refine o1_2 rs.ints fun xs e1 e2 => ?_
 have ev : vs = intItems xs.toArray := by
  apply Array.toList_inj.mp
  rw [e1]; simp [intItems]
 refine sum_intListG (xs := xs.toArray) R.handled ⟨o, H.gin _ _ g, hc, m, by rw [← ev]; exact hd⟩ fun h' tk t' hk => ?_
 rw [preSum_eq, List.take_of_length_le (by simp)]
 have : (List.map (fun x => x.fst) xs.toArray.toList) = is := e2
 rw [this]
 exact ⟨G, _, PH.Le.refl G, H.ext hk, HLe.full hk, Rep.i, h⟩
end Mine
end
section
open PySem PySem.W PyProof.Rows PySem.Calls
namespace Mine
variable {W : Wd} {n : Nat}
def kRun {α : Type} (lt : Nat → Nat → Bool) : KasT α → α
 | .ret a => a
 | .ask i j k => kRun lt (k (lt i j))
def kOk {α : Type} (m : Nat) (lt : Nat → Nat → Bool) : KasT α → Bool
 | .ret _ => true
 | .ask i j k => (decide (i < m) && decide (j < m) && decide (i ≠ j)) && kOk m lt (k (lt i j))
theorem kOk.wp {α : Type} {m : Nat} {lt : Nat → Nat → Bool} {cmp : Nat → Nat → (Bool → Shared → Prop) → Shared → Prop} {s : Shared}
  (hc : ∀ i j (C : Bool → Shared → Prop), i < m → j < m → i ≠ j → C (lt i j) s → cmp i j C s) : ∀ (t : KasT α) (Q : α → Shared → Prop), kOk m lt t = true → Q (kRun lt t) s → t.kasWp cmp Q s
 | .ret a, Q, _, h => h
 | .ask i j k, Q, ho, h => by
  unfold kOk at ho
  simp only [Bool.and_eq_true, decide_eq_true_eq] at ho
  exact hc i j _ ho.1.1.1 ho.1.1.2 ho.1.2 (kOk.wp hc (k (lt i j)) Q ho.2 h)
theorem kOk.congr {α : Type} {m : Nat} {lt lt' : Nat → Nat → Bool} (e : ∀ i j, i < m → j < m → i ≠ j → lt i j = lt' i j) : ∀ (t : KasT α), kOk m lt' t = true → kOk m lt t = true ∧ kRun lt t = kRun lt' t
 | .ret a, _ => ⟨rfl, rfl⟩
 | .ask i j k, ho => by
  unfold kOk at ho ⊢
  simp only [Bool.and_eq_true, decide_eq_true_eq] at ho ⊢
  have q := e i j ho.1.1.1 ho.1.1.2 ho.1.2
  have r := kOk.congr e (k (lt' i j)) ho.2
  refine ⟨⟨ho.1, by rw [q]; exact r.1⟩, ?_⟩
  show kRun lt (k (lt i j)) = kRun lt' (k (lt' i j))
  rw [q]; exact r.2
def tb (a b c d e f : Bool) : Nat → Nat → Bool
 | 0, 1 => a | 0, 2 => b | 0, 3 => c | 1, 2 => d | 1, 3 => e | 2, 3 => f
 | 1, 0 => !a | 2, 0 => !b | 3, 0 => !c | 2, 1 => !d | 3, 1 => !e | 3, 2 => !f
 | _, _ => false
def tbTr (lt : Nat → Nat → Bool) : Bool := [0, 1, 2, 3].all fun i => [0, 1, 2, 3].all fun j => [0, 1, 2, 3].all fun k => i == k || !lt i j || !lt j k || lt i k
def up (lt : Nat → Nat → Bool) : List Nat → Bool
 | [] => true
 | i :: r => r.all (fun j => lt i j) && up lt r
def tbOk (lt : Nat → Nat → Bool) : Bool := !tbTr lt || (kOk 4 lt (kas_sort 4) && up lt (kRun lt (kas_sort 4)).toList && (kRun lt (kas_sort 4)).toList.isPerm [0, 1, 2, 3] && (kRun lt (kas_sort 4)).size == 4)
theorem tb_ok : ∀ a b c d e f : Bool, tbOk (tb a b c d e f) = true := by decide +kernel
theorem up.pw {lt : Nat → Nat → Bool} : ∀ {l : List Nat}, up lt l = true → l.Pairwise (fun i j => lt i j = true)
 | [], _ => .nil
 | i :: r, h => by
  unfold up at h
  simp only [Bool.and_eq_true, List.all_eq_true] at h
  exact .cons h.1 (up.pw h.2)
theorem sort4 {lt : Nat → Nat → Bool} (ha : ∀ i j, i < 4 → j < 4 → i ≠ j → lt j i = !lt i j) (ht : ∀ i j k, i < 4 → j < 4 → k < 4 → i ≠ k → lt i j = true → lt j k = true → lt i k = true) (hi : ∀ i, i < 4 → lt i i = false) :
  kOk 4 lt (kas_sort 4) = true ∧ (kRun lt (kas_sort 4)).toList.Perm [0, 1, 2, 3] ∧ (kRun lt (kas_sort 4)).toList.Pairwise (fun i j => lt i j = true) := by
 have e : ∀ i j, i < 4 → j < 4 → i ≠ j → lt i j = tb (lt 0 1) (lt 0 2) (lt 0 3) (lt 1 2) (lt 1 3) (lt 2 3) i j := fun i j hi hj hn => by
  (rcases i with _ | _ | _ | _ | i) <;> (rcases j with _ | _ | _ | _ | j) <;> first | rfl | omega | exact ha _ _ (by assumption) (by assumption) (by decide)
 have e2 : ∀ i j, i < 4 → j < 4 → tb (lt 0 1) (lt 0 2) (lt 0 3) (lt 1 2) (lt 1 3) (lt 2 3) i j = lt i j := fun i j hi' hj => by
  by_cases q : i = j
  ·subst q; rw [hi i hj]
   (rcases i with _ | _ | _ | _ | i) <;> first | rfl | omega
  ·exact (e i j hi' hj q).symm
 have k := tb_ok (lt 0 1) (lt 0 2) (lt 0 3) (lt 1 2) (lt 1 3) (lt 2 3)
 unfold tbOk at k
 have tr : tbTr (tb (lt 0 1) (lt 0 2) (lt 0 3) (lt 1 2) (lt 1 3) (lt 2 3)) = true := by
  unfold tbTr
  simp only [List.all_eq_true]
  intro i mi j mj k mk
  have b : ∀ x ∈ [0, 1, 2, 3], x < 4 := by decide
  rw [e2 i j (b i mi) (b j mj), e2 j k (b j mj) (b k mk), e2 i k (b i mi) (b k mk)]
  by_cases q : i = k
  ·simp [q]
  ·cases h1 : lt i j <;> cases h2 : lt j k <;> simp [q]
   exact ht i j k (b i mi) (b j mj) (b k mk) q h1 h2
 rw [tr] at k
 simp only [Bool.not_true, Bool.false_or, Bool.and_eq_true] at k
 refine o0_2 (kOk.congr e (kas_sort 4) k.1.1.1) fun c1 c2 => ?_
 have pm : (kRun lt (kas_sort 4)).toList.Perm [0, 1, 2, 3] := by rw [c2]; exact List.isPerm_iff.mp k.1.2
 refine ⟨c1, pm, ?_⟩
 have pw := up.pw k.1.1.2
 rw [← c2] at pw
 refine pw.imp_of_mem fun {i j} mi mj h => ?_
 have b : ∀ x ∈ [0, 1, 2, 3], x < 4 := by decide
 rw [← e2 i j (b _ (pm.mem_iff.mp mi)) (b _ (pm.mem_iff.mp mj))]; exact h
end Mine
end
section
open PySem PySem.W PyProof.Rows PySem.Calls
namespace Mine
variable {W : Wd} {n : Nat}
abbrev ssT (e : Str × Str) : PV := .tuple [.str e.1, .str e.2]
inductive IsSS (h : Heap) (e : Str × Str) (v : Value)  : Prop where
 | mk : ∀ a o m t u, v = .ref a → h.get? a = some o → o.cls = .type "tuple" → o.data = .seq #[.str e.1 t, .str e.2 u] m → IsSS h e v 
theorem IsSS.mono {h h' : Heap} {e : Str × Str} {v : Value} (k : HLeF h h') (x : IsSS h e v) : IsSS h' e v :=
 let ⟨a, o, m, t, u, p, q, r, r'⟩ := x; ⟨a, o, m, t, u, p, k _ _ q, r, r'⟩
theorem IsSS.of {G : PH} {h : Heap} (hg : G.In h) {e : Str × Str} {v : Value} (r : Rep W G (ssT e) v) : IsSS h e v := by
 obtain ⟨a, o, vs, m, rfl, g, hc, hd, rs⟩ := r.tup_inv
 refine o2_3 rs ?_; clear rs; intro v1 r1 e1 h1 rs
 refine o2_3 rs ?_; clear rs; intro v2 r2 e2 h2 rs
 have rs : r2 = [] := rs
 refine o1_1 h1.str_inv fun t zb => ?_; obtain rfl := zb
 refine o1_1 h2.str_inv fun u zb => ?_; obtain rfl := zb
 refine ⟨a, o, m, t, u, rfl, hg _ _ g, hc, ?_⟩
 rw [hd]; congr 1
 apply Array.toList_inj.mp
 rw [e1, e2, rs]
theorem Reps.map {α : Type} {G : PH} {f : α → PV} : ∀ {es : List α} {vs : List Value}, Reps W G (es.map f) vs → ∀ (i : Nat) (e : α), es[i]? = some e → ∃ v, vs[i]? = some v ∧ Rep W G (f e) v
 | [], vs, h, i, e, he => by simp at he
 | x :: es, vs, h, i, e, he => by
  rw [List.map_cons] at h; refine o2_3 h fun v r zc h1 h2 => ?_; clear h; obtain rfl := zc
  cases i with
  | zero => simp at he; subst he; exact (i1_2 v rfl h1)
  | succ i => simpa using Reps.map h2 i e (by simpa using he)
theorem kss_lt {A : Around} {E : Value → Shared → Prop} {s : Shared} {x y : Str × Str} {v u : Value} {Q : Bool → Shared → Prop} (hx : IsSS s.heap x v) (hy : IsSS s.heap y u) (hn : x.1 ≠ y.1)
  (h : Q (decide (x.1.cps.toList < y.1.cps.toList)) s) : wpAny W.M A (keyLt' (tuples' (Value.type "str" != Value.type "tuple")) v u) Q E s := by
 obtain ⟨a, o, m, t, t2, rfl, h1, h2, h3⟩ := hx
 obtain ⟨a', o', m', t', t2', rfl, h1', h2', h3'⟩ := hy
 refine kat_lt h1 h3 h1' h3' ?_
 refine kat_cons (wpAny_eqBool_str ?_)
 have : decide (x.1 = y.1) = false := by simpa using hn
 rw [this]
 refine kat_no ?_
 exact oneLt_str h
theorem nd_inj {l : List (Str × Str)} (hd : (l.map (·.1)).Nodup) {i j : Nat} (hi : i < l.length) (hj : j < l.length) (q : (l.getD i default).1 = (l.getD j default).1) : i = j := by
 have p := List.pairwise_iff_getElem.mp hd
 have gd : ∀ {k : Nat} (hk : k < l.length), l.getD k default = l[k] := fun hk => by rw [List.getD_eq_getElem?_getD, List.getElem?_eq_getElem hk]; rfl
 rw [gd hi, gd hj] at q
 rcases Nat.lt_trichotomy i j with c | c | c
 ·have := p i j (by simpa using hi) (by simpa using hj) c
  simp only [List.getElem_map] at this
  exact absurd q this
 ·exact c
 ·have := p j i (by simpa using hj) (by simpa using hi) c
  simp only [List.getElem_map] at this
  exact absurd q.symm this
def ltE (es : List (Str × Str)) (i j : Nat) : Bool := decide ((es.getD i default).1.cps.toList < (es.getD j default).1.cps.toList)
theorem str_tot {p q : Str} (ne : p ≠ q) : decide (q.cps.toList < p.cps.toList) = !decide (p.cps.toList < q.cps.toList) := by
 have hne : p.cps.toList ≠ q.cps.toList := fun r => ne (by cases p; cases q; congr; exact Array.toList_inj.mp r)
 by_cases c : p.cps.toList < q.cps.toList
 ·rw [decide_eq_true c, decide_eq_false fun d => List.lt_irrefl _ (List.lt_trans c d)]; rfl
 ·rw [decide_eq_false c]
  exact decide_eq_true (Decidable.byContradiction fun d => hne (List.le_antisymm (List.not_lt.mp d) (List.not_lt.mp c)))
theorem sortE {es : List (Str × Str)} (hl : es.length = 4) (hd : (es.map (·.1)).Nodup) :
  kOk 4 (ltE es) (kas_sort 4) = true ∧ (kRun (ltE es) (kas_sort 4)).toList.Perm [0, 1, 2, 3] ∧ (kRun (ltE es) (kas_sort 4)).toList.Pairwise (fun i j => ltE es i j = true) :=
 sort4 (fun i j hi hj hn => str_tot fun q => hn (nd_inj hd (hl ▸ hi) (hl ▸ hj) q))
  (fun i j k hi hj hk _ h1 h2 => decide_eq_true (List.lt_trans (of_decide_eq_true h1) (of_decide_eq_true h2)))
  fun i hi => decide_eq_false (List.lt_irrefl _)
theorem tupsE {H : Heap} : ∀ {es : List (Str × Str)} {vs : List Value}, vs.length = es.length → (∀ (i : Nat) (e : Str × Str), es[i]? = some e → ∃ v, vs[i]? = some v ∧ IsSS H e v) → ∃ fs, KatTups H vs fs ∧ fs.length = es.length ∧ ∀ v ∈ fs, ∃ x t, v = Value.str x t
 | [], vs, hl, _ => by rw [List.eq_nil_of_length_eq_zero hl]; exact (i1_3 ([]) .nil rfl (nofun))
 | e :: es, [], hl, h => absurd hl (Nat.succ_ne_zero _).symm
 | e :: es, v :: vs, hl, h => by
  refine o1_2 (h 0 e rfl) fun v' q zz => ?_; obtain ⟨a, o, m, t, u, rfl, k, l, j⟩ := zz
  cases q
  refine o1_3 (tupsE (Nat.succ.inj hl) fun i e he => h (i + 1) e he) fun fs h1 h2 h3 => ?_
  exact (i1_3 (_ :: fs) (.cons k l j rfl h1) (congrArg Nat.succ h2) (fun v hv => (List.mem_cons.mp hv).elim (fun q => (i2_1 _ _ q)) (h3 v)))
theorem sort_run {A : Around} {s : Shared} {a : Addr} {m : Nat} {es : List (Str × Str)} {vs : List Value} {E : Value → Shared → Prop} {P : PySem.Fin → Shared → Prop}
  (hl : es.length = 4) (hv : vs.length = 4) (hi : ∀ (i : Nat) (e : Str × Str), es[i]? = some e → ∃ v, vs[i]? = some v ∧ IsSS s.heap e v) (hd : (es.map (·.1)).Nodup) (hna : ∀ v ∈ vs, v ≠ .ref a) (ho : s.heap.get? a = some (seqObj "list" vs.toArray m))
  (h : ∀ (is : List Nat) h' e, is.Perm [0, 1, 2, 3] → is.Pairwise (fun i j => (es.getD i default).1.cps.toList < (es.getD j default).1.cps.toList) → (∀ b o, b ≠ a → s.heap.get? b = some o → h'.get? b = some o) →
   h'.get? a = some (seqObj "list" (is.map fun i => vs.getD i Value.none).toArray e) → P (.done (.ret .none)) { s with heap := h' }) :
  wpAny W.M A (Builtin.«list.sort» ⟨[.ref a], []⟩) P E s := by
 have ha : a < s.heap.objs.size := Heap.lt_size ho
 have s1 := Heap.SameBut.update s.heap a (Obj.mapSeq fun _ => (#[] : Array Value))
 obtain ⟨e1, ho1⟩ : ∃ e1, (s.heap.update a (Obj.mapSeq fun _ => (#[] : Array Value))).get? a = some (seqObj "list" #[] e1) := ⟨_, get?_update_seq ho fun _ => #[]⟩
 have sz : vs.toArray.size = 4 := by rw [List.size_toArray, hv]
 rw [list_sort_plain]
 refine wpAny_bind (listItems_at ho rfl ?_)
 refine wpAny_bind (listUpdate_at ho rfl ?_ (by rw [sz, sizeLine_eq]; with_reducible exact Nat.le_add_left _ _) (Nat.zero_le _))
 refine wpAny_bind (seqEpoch_at ho1 rfl ?_)
 refine wpAny_bind (wpAny_newTuple ?_ (by show vs.length ≤ _; rw [sizeLine_eq]; with_reducible exact Om.eqLe (by assumption) (by decide)))
 refine wpAny_bind (wpAny_newList ?_ (Nat.zero_le _))
 refine wpAny_holding ?_
 generalize hH : ((s.heap.update a (Obj.mapSeq fun _ => (#[] : Array Value))).push { cls := .type "tuple", data := .seq vs.toArray }).push { cls := .type "list", data := .seq #[] } = H
 have hk : ∀ b o, b ≠ a → s.heap.get? b = some o → H.get? b = some o := fun b o q e => by
  subst hH
  exact Heap.get?_push_of_some _ (Heap.get?_push_of_some _ ((s1.2 b q).trans e))
 have hoA : H.get? a = some (seqObj "list" #[] e1) := by subst hH; exact Heap.get?_push_of_some _ (Heap.get?_push_of_some _ ho1)
 show wpAny W.M A _ P E { s with heap := H }
 dsimp only
 have hn2 : ¬ vs.toArray.size < 2 := by rw [sz]; decide
 rw [if_neg hn2, if_neg hn2]
 have hi' : ∀ (i : Nat) (e : Str × Str), es[i]? = some e → ∃ v, vs[i]? = some v ∧ IsSS H e v := fun i e he => by
  refine o1_2 (hi i e he) fun v q zz => ?_; obtain ⟨b, o, m', t, u, rfl, k1, k2, k3⟩ := zz
  refine (i1_2 _ q ⟨b, o, m', t, u, rfl, hk b o (fun r => hna _ (List.mem_of_getElem? q) (by rw [r])) k1, k2, k3⟩)
 have yAll : ∀ i, i < 4 → IsSS H (es.getD i default) (vs.getD i Value.none) := fun i h4 => by
  have e1 : es[i]? = some (es.getD i default) := by rw [List.getD_eq_getElem?_getD, List.getElem?_eq_getElem (hl ▸ h4)]; rfl
  refine o1_2 (hi' i _ e1) fun v q y => ?_
  rw [show vs.getD i Value.none = v by rw [List.getD_eq_getElem?_getD, q]; rfl]; exact y
 refine o1_3 (tupsE (hv.trans hl.symm) hi') fun fs tups hfl hfs => ?_
 refine o0_3 (sortE hl hd) fun c1 c2 c3 => ?_
 have c3 := c3.imp fun q => of_decide_eq_true q
 generalize hp : kRun (ltE es) (kas_sort 4) = p at c2 c3
 have fin := h p.toList
 refine wpAny_bind (wpAny_mono (kat_kind (fs := fs) (T := .type "str") (Q := fun κ s' => κ = tuples' (Value.type "str" != Value.type "tuple") ∧ s' = { s with heap := H }) (E := fun _ _ => False) tups (by rw [hfl, hl]; decide) (fun v hv => ?_) (by decide) ⟨rfl, rfl⟩) (fun κ s0 hk0 => ?_) fun _ _ x => x.elim)
 ·refine o2_1 (hfs v hv) fun x t zc => ?_; obtain rfl := zc
  exact .now
 refine o0_2 hk0 fun za zb => ?_; clear hk0; obtain rfl := za; obtain rfl := zb
 refine wpAny_bind (wpAny_mono (kat_run (ks := vs) (vs := vs) (κ := tuples' (Value.type "str" != Value.type "tuple")) (Q := fun st' s' => ∃ p' : Array Nat, p' = p ∧ arrOf st' = p'.map (kas_item (vs.toArray.zip vs.toArray)) ∧ failedOf st' = none ∧ s' = { s with heap := H })
  (E := fun _ _ => False) (G := fun p' s' => p' = p ∧ s' = { s with heap := H }) rfl (by rw [hv]; decide) (by rw [hv]; decide) (fun p' st' s' a1 a2 a3 a4 => (i1_4 p' (a4.1) a2 a3 (a4.2))) ?_) ?_ fun _ _ e => e.elim)
 ·rw [hv]
  refine kOk.wp (lt := ltE es) (m := 4) (fun i j C hi hj hn hC => ?_) _ _ c1 ⟨hp, rfl⟩
  exact kss_lt (x := es.getD i default) (y := es.getD j default) (yAll i hi) (yAll j hj) (fun q => hn (nd_inj hd (hl ▸ hi) (hl ▸ hj) q)) hC
 rintro ⟨⟨⟩, st'⟩ s' ⟨p', rfl, har, hf, rfl⟩
 dsimp only
 have hout := kat_snds rfl har
 have hsz : (List.toArray (p'.toList.map fun i => vs.getD i Value.none)).size = 4 := by rw [List.size_toArray, List.length_map]; exact c2.length_eq
 rw [hout]
 have s2 := Heap.SameBut.update H a (Obj.mapSeq fun _ => List.toArray (p'.toList.map fun i => vs.getD i Value.none))
 obtain ⟨c4, hc2⟩ : ∃ c2, (H.update a (Obj.mapSeq fun _ => List.toArray (p'.toList.map fun i => vs.getD i Value.none))).get? a = some (seqObj "list" (List.toArray (p'.toList.map fun i => vs.getD i Value.none)) c2) := ⟨_, get?_update_seq hoA fun _ => List.toArray (p'.toList.map fun i => vs.getD i Value.none)⟩
 refine wpAny_bind (seqEpoch_at hoA rfl ?_)
 refine wpAny_bind (listUpdate_at hoA rfl ?_ (Nat.zero_le _) (Nat.le_trans (Nat.le_of_eq hsz) (by rw [sizeLine_eq]; with_reducible exact Nat.le_add_left _ _)))
 rw [hf]
 simp only [bne_self_eq_false, Bool.false_eq_true, if_false]
 exact wpAny_pure (fin _ c4 c2 c3 (fun b o q e => (s2.2 b q).trans (hk b o q e)) hc2)
theorem Rep.ofList {W : Wd} {G : PH} {ps : List PV} {a : Addr} {o : Obj} {vs : Array Value} {m : Nat} (g : G a = some o) (hc : o.cls = .type "list") (hd : o.data = .seq vs m) (r : Reps W G ps vs.toList) : Rep W G (.list ps) (.ref a) := by
 exact i4_5 a o vs m rfl g hc hd r
theorem IsSS.reps {W : Wd} {G : PH} : ∀ {es : List (Str × Str)} {vs : List Value}, (∀ (i : Nat) (e : Str × Str), es[i]? = some e → ∃ v, vs[i]? = some v ∧ Rep W G (ssT e) v) → vs.length = es.length → Reps W G (es.map ssT) vs
 | [], vs, _, hl => by rw [List.eq_nil_of_length_eq_zero hl]; exact Reps.nil
 | e :: es, [], h, hl => absurd hl (Nat.succ_ne_zero _).symm
 | e :: es, v :: vs, h, hl => by
  refine o1_2 (h 0 e rfl) fun v' q r => ?_
  cases q
  exact Reps.cons r (IsSS.reps (fun i e he => h (i + 1) e he) (by simpa using hl))
theorem CallP.sorted4 {es : List (Str × Str)} {Ψ : PV → Prop} (hl : es.length = 4) (hd : (es.map (·.1)).Nodup)
  (h : ∀ out : List (Str × Str), out.Perm es → out.Pairwise (fun x y => x.1.cps.toList < y.1.cps.toList) → Ψ (.list (out.map ssT))) : CallP W n (.val (.builtin "sorted")) [.list (es.map ssT)] Ψ := fun A N G s f vs R H rf rv => by
 have := rf.val_inv; subst this; refine o1_2 rv.inv1 fun a₀ zb ra => ?_; obtain rfl := zb
 obtain ⟨l, o, vs, m, rfl, g, hc, hdt, rs⟩ := ra.list_inv
 have hv : vs.toList.length = 4 := by rw [rs.length, List.length_map, hl]
 have isl : s.heap.IsList l vs := ⟨o, H.gin _ _ g, hc, m, hdt⟩
 refine Calls.call_function_entry kind_sorted plain_sorted entry_sorted (args_sorted1 _) ?_
 unfold Builtin.«sorted»
 refine wpAny_bind (m := checkCount "sorted" 1 1 _) (wpAny_pure ?_)
 refine wpAny_bind (collect_list isl ?_ (by
   rw [sizeLine_eq]; have : vs.size = 4 := by rw [← Array.length_toList, hv]
   with_reducible exact Om.eqLe (by assumption) (by decide)))
 refine wpAny_bind (wpAny_newList ?_ (by
   rw [sizeLine_eq]; have : vs.size = 4 := by rw [← Array.length_toList, hv]
   with_reducible exact Om.eqLe (by assumption) (by decide)))
 have hsz : ((s.heap.push (seqObj "list" #[] 0)).update s.heap.objs.size (Obj.mapSeq (· ++ vs))).objs.size = s.heap.objs.size + 1 := by
  rw [Heap.size_update, size_push']
 have hoL : (((s.heap.push (seqObj "list" #[] 0)).update s.heap.objs.size (Obj.mapSeq (· ++ vs))).push (seqObj "list" vs 0)).get? (s.heap.objs.size + 1) = some (seqObj "list" vs 0) := by
  rw [← hsz]; exact Heap.get?_push_size _ rfl
 have keep : ∀ b o, s.heap.get? b = some o → (((s.heap.push (seqObj "list" #[] 0)).update s.heap.objs.size (Obj.mapSeq (· ++ vs))).push (seqObj "list" vs 0)).get? b = some o := fun b o q => by
  have hlt : b < s.heap.objs.size := Heap.lt_size q
  rw [Heap.get?_push_ne _ _ _ (by rw [hsz]; exact Nat.ne_of_lt (Nat.lt_succ_of_lt hlt)), Heap.get?_update_ne _ _ _ _ (Nat.ne_of_lt hlt), Heap.get?_push_ne _ _ _ (Nat.ne_of_lt hlt)]
  exact q
 show wpAny _ _ _ _ _ { s with heap := ((s.heap.push (seqObj "list" #[] 0)).update s.heap.objs.size (Obj.mapSeq (· ++ vs))).push (seqObj "list" vs 0) }
 rw [hsz]
 refine wpAny_bind (wpAny_holding (wpAny_call_entry slot_list_sort ⟨_, hoL, rfl⟩ entry_list_sort ?body (args_list_sort _)))
 case body =>
  have iss : ∀ (i : Nat) (e : Str × Str), es[i]? = some e → ∃ v, vs.toList[i]? = some v ∧ IsSS s.heap e v := fun i e he => by
   refine o1_2 (Reps.map rs i e he) fun v q r => ?_
   exact (i1_2 v q (IsSS.of H.gin r))
  refine sort_run (s := { s with heap := ((s.heap.push (seqObj "list" #[] 0)).update s.heap.objs.size (Obj.mapSeq (· ++ vs))).push (seqObj "list" vs 0) }) (vs := vs.toList) hl hv
   (fun i e he => o1_2 (iss i e he) fun v q r => (i1_2 v q (r.mono keep))) hd (fun v mv q => ?_) (by rw [Array.toArray_toList]; exact hoL) (fun is h' e pm pw hk hat => (i1_2 _ rfl (wpAny_pure ?_)))
  ·refine o1_1 (List.mem_iff_getElem.mp mv) fun i zz => ?_; refine o1_1 zz fun hi e => ?_; clear zz
   refine o1_2 (iss i (es[i]'(by rw [hl, ← hv]; exact hi)) (List.getElem?_eq_getElem _)) fun v' q' zz => ?_; obtain ⟨a', o', m', t, u, e', k1, _⟩ := zz
   rw [List.getElem?_eq_getElem hi] at q'; cases q'
   rw [e, q] at e'; cases e'
   exact absurd (Heap.lt_size k1) (Nat.not_lt_of_le (Nat.le_succ _))
  ·have hk2 : HLeF s.heap h' := fun b o e => hk b o (fun q => absurd (Heap.lt_size e) (Nat.not_lt_of_le (q ▸ Nat.le_succ _))) (keep b o e)
   have gn : G (s.heap.objs.size + 1) = none := by
    cases e : G (s.heap.objs.size + 1) with
    | none => rfl
    | some o' => exact absurd (Heap.lt_size (H.gin _ _ e)) (Nat.not_lt_of_le (Nat.le_succ _))
   have H2 := H.ext (tk := s.toks) hk2
   refine (i1_2 _ rfl ⟨G.add (s.heap.objs.size + 1) _, _, PH.Le.add gn, ⟨H2.base, H2.gin.add hat, fun a ha => ?_, H2.os, H2.gens, H2.pl, H2.ps⟩, HLe.full hk2, ?r, h (is.map fun i => es.getD i default) ?_ ?_⟩)
   ·have := H2.nok a ha
    refine ⟨this.1, ?_⟩
    rw [PH.add_ne]
    ·exact this.2
    ·intro q
     refine o1_1 ((H.nok a ha).1) fun o' ho' => ?_
     exact absurd (Heap.lt_size ho') (Nat.not_lt_of_le (q ▸ Nat.le_succ _))
   ·refine Rep.ofList (PH.add_self ..) rfl rfl (IsSS.reps (es := is.map fun i => es.getD i default) (fun i e he => ?_) (by simp))
    obtain ⟨k, hk', e'⟩ : ∃ k, is[i]? = some k ∧ es.getD k default = e := by simpa using he
    have hk4 : k < 4 := by
     have := pm.mem_iff.mp (List.mem_of_getElem? hk')
     have b : ∀ x ∈ [0, 1, 2, 3], x < 4 := by decide
     exact b _ this
    have he' : es[k]? = some e := by
     rw [List.getD_eq_getElem?_getD, List.getElem?_eq_getElem (by with_reducible exact Nat.lt_of_lt_of_eq (by assumption) (Eq.symm (by assumption)))] at e'
     rw [List.getElem?_eq_getElem (by with_reducible exact Nat.lt_of_lt_of_eq (by assumption) (Eq.symm (by assumption)))]; exact congrArg some e'
    refine o1_2 (Reps.map rs k e he') fun v q r => ?_
    refine (i1_2 v ?_ (Rep.mono (PH.Le.add gn) _ _ r))
    simp only [List.toList_toArray, List.getElem?_map, hk', Option.map_some]
    rw [List.getD_eq_getElem?_getD, q]; rfl
   ·have : (is.map fun i => es.getD i default).Perm ([0, 1, 2, 3].map fun i => es.getD i default) := pm.map _
    refine this.trans (List.Perm.of_eq ?_)
    refine o4_1 (list4 hl) fun x0 x1 x2 x3 ze => ?_; obtain rfl := ze
    rfl
   ·exact List.pairwise_map.mpr pw
end Mine
end
section
open PySem PySem.W PyProof.Rows PySem.Calls
open Builtin
namespace Mine
variable {W : Wd} {n : Nat}
theorem gives_blt (b c : Array UInt8) (t u : Tok) : Gives («bytes.__lt__» ⟨[.bytes b t, .bytes c u], []⟩) (.val (.bool (Bytes.order b.toList c.toList == .lt))) := by
 refine .of_wp fun M A E s Q hq => ?_
 show wpAny M A (isInstance (.bytes c u) (.type "bytes") >>= fun r => _) _ E s
 refine wpAny_bind (wpAny_isInstance (typeIs_bytes s c u) F.sub_bytes_bytes ?_)
 exact wpAny_pure (i1_2 _ rfl hq)
theorem gives_bgt (b c : Array UInt8) (t u : Tok) : Gives («bytes.__gt__» ⟨[.bytes b t, .bytes c u], []⟩) (.val (.bool (Bytes.order b.toList c.toList == .gt))) := by
 refine .of_wp fun M A E s Q hq => ?_
 show wpAny M A (isInstance (.bytes c u) (.type "bytes") >>= fun r => _) _ E s
 refine wpAny_bind (wpAny_isInstance (typeIs_bytes s c u) F.sub_bytes_bytes ?_)
 exact wpAny_pure (i1_2 _ rfl hq)
theorem CmpP.ltB {a b : Array UInt8} {Ψ : PV → Prop} (h : Ψ (.bool (Bytes.order a.toList b.toList == .lt))) : CmpP W n .Lt (.bytes a) (.bytes b) Ψ := fun A N G s x y R H rx ry => by
 refine o1_1 rx.bytes_inv fun t zb => ?_; obtain rfl := zb; refine o1_1 ry.bytes_inv fun u zb => ?_; obtain rfl := zb
 exact compareOp_gives (op := .Lt) (typeIs_bytes s a t) (typeIs_bytes s b u) FR.slot_blt FR.entry_blt (FR.args_blt_2 _ _) (gives_blt a b t u) (fun e => nomatch e) (VPost.same H Rep.b h)
theorem CmpP.gtB {a b : Array UInt8} {Ψ : PV → Prop} (h : Ψ (.bool (Bytes.order a.toList b.toList == .gt))) : CmpP W n .Gt (.bytes a) (.bytes b) Ψ := fun A N G s x y R H rx ry => by
 refine o1_1 rx.bytes_inv fun t zb => ?_; obtain rfl := zb; refine o1_1 ry.bytes_inv fun u zb => ?_; obtain rfl := zb
 exact compareOp_gives (op := .Gt) (typeIs_bytes s a t) (typeIs_bytes s b u) FR.slot_bgt FR.entry_bgt (FR.args_bgt_2 _ _) (gives_bgt a b t u) (fun e => nomatch e) (VPost.same H Rep.b h)
def glV : List (Value × Value) → Bool
 | (.int a _, .int b _) :: r => if a == b then glV r else decide (b < a)
 | _ => false
def AllI (l : List (Value × Value)) : Prop := ∀ p ∈ l, ∃ a t b u, p = (Value.int a t, Value.int b u)
theorem rc_gt {prog : Program} {w : World} {A : Around} {E : Value → Shared → Prop} {s : Shared} {a b : Int} {t u : Tok} {Q : Value → Shared → Prop} (h : Q (.bool (decide (b < a))) s) : wpAny (model prog w) A (richCompare .Gt (.int a t) (.int b u)) Q E s :=
 show wpAny (model prog w) A (compareOp .Gt (.int a t) (.int b u)) Q E s from gt_int h
theorem tuple_gtI (l b : Addr) (items items2 : Array Value) (n n2 : Nat) (dd dd2 : Option Addr) (sl sl2 : Array (Option Value)) (hz : items.size = items2.size) (hI : AllI (items.toList.zip items2.toList)) :
  Meets (Builtin.«tuple.__gt__» ⟨[.ref l, .ref b], []⟩)
   (fun A R s => s.heap.get? l = some { cls := .type "tuple", dict := dd, data := .seq items n, slots := sl } ∧ s.heap.get? b = some { cls := .type "tuple", dict := dd2, data := .seq items2 n2, slots := sl2 } ∧
    R (.ok (.ret (.bool (glV (items.toList.zip items2.toList))))) s) :=
 .of_wp fun prog w A R s h => by
  obtain ⟨hp, g, d, tk, os⟩ := s; refine o0_3 h ?_; clear h; intro hl hb h
  have f2 := AutoSeq1.sub_tuple_tuple
  wp_walk using wpAny_loadPart' hl, wpAny_loadPart' hb, wpAny_forIn_list _ (fun rest b s' => b.1 = none ∧ s' = ⟨hp, g, d, tk, os⟩ ∧ AllI rest ∧
   R (.ok (.ret (.bool (glV rest)))) ⟨hp, g, d, tk, os⟩) _
  case turn =>
   rintro ⟨y, x⟩ rest b s' ⟨hb', rfl, hA, hR⟩
   refine o4_1 (hA (y, x) (.head _)) fun a t c u e => ?_
   cases e
   have hR' : R (.ok (.ret (.bool (if a == c then glV rest else decide (c < a))))) ⟨hp, g, d, tk, os⟩ := hR
   refine wpAny_bind (wpAny_eqBool_int ?_)
   cases hy : (a == c) with
   | true =>
    rw [hy] at hR'
    wp_walk
    exact ⟨rfl, rfl, fun p hp => hA p (.tail _ hp), hR'⟩
   | false =>
    rw [hy] at hR'
    wp_walk using rc_gt
    exact (i1_2 _ rfl hR')
  case fin =>
   rintro ⟨b1, b2⟩ s' ⟨hb', rfl, hA, hR⟩
   simp only at hb'
   subst hb'
   wp_walk
   refine (i1_2 _ rfl ?_)
   have e : Tuple.tupleCompareSizes CmpOp.Gt items.size items2.size = .bool false := by
    rw [hz]; unfold Tuple.tupleCompareSizes; simp
   rw [e]; exact hR
  case h =>
   exact ⟨rfl, rfl, hI, h⟩
theorem CmpP.gtPair {a b c d : Int} {Ψ : PV → Prop} (h : Ψ (.bool (if a == c then (if b == d then false else decide (d < b)) else decide (c < a)))) : CmpP W n .Gt (.tuple [.int a, .int b]) (.tuple [.int c, .int d]) Ψ := fun A N G s x y R H rx ry => by
 refine o2_4 (rx.isTup H) fun l vs zc hl rs hz => ?_; obtain rfl := zc; refine o2_4 (ry.isTup H) fun m us zc hl' rs' hz' => ?_; obtain rfl := zc
 refine o2_3 rs.inv2 fun v1 v2 e r1 r2 => ?_; refine o2_3 rs'.inv2 fun u1 u2 e' r1' r2' => ?_
 refine o1_1 r1.int_inv fun t1 zb => ?_; obtain rfl := zb; refine o1_1 r2.int_inv fun t2 zb => ?_; obtain rfl := zb; refine o1_1 r1'.int_inv fun t3 zb => ?_; obtain rfl := zb; refine o1_1 r2'.int_inv fun t4 zb => ?_; obtain rfl := zb
 have e2 : vs = #[.int a t1, .int b t2] := Array.toList_inj.mp (by rw [e])
 have e3 : us = #[.int c t3, .int d t4] := Array.toList_inj.mp (by rw [e'])
 subst e2 e3
 refine o1_3 (id hl) fun za ho hc zz => ?_; obtain ⟨cls, dd, data, sl⟩ := za; refine o1_1 zz fun n hd => ?_; clear zz
 refine o1_3 (id hl') fun za ho2 hc2 zz => ?_; obtain ⟨cls2, dd2, data2, sl2⟩ := za; refine o1_1 zz fun n2 hd2 => ?_; clear zz
 simp only at hc hd hc2 hd2
 subst hc hd hc2 hd2
 show wpAny W.M A (richCompare .Gt (.ref l) (.ref m)) _ _ _
 refine richCompare_meets_room (op := .Gt) ⟨_, ho, rfl⟩ ⟨_, ho2, rfl⟩ F.slot_tuple_gt F.entry_tuple_gt (F.args_tuple_gt_2 _ _) (tuple_gtI l m #[.int a t1, .int b t2] #[.int c t3, .int d t4] n n2 dd dd2 sl sl2 rfl ?_) ⟨ho, ho2, (fun x => nomatch x), VPost.same H Rep.b h⟩ (by have := R.u (d := 0) (by with_reducible exact Nat.le_add_left _ _); assumption)
 intro p hp
 have hp : p ∈ [(Value.int a t1, Value.int c t3), (Value.int b t2, Value.int d t4)] := hp
 simp only [List.mem_cons, List.not_mem_nil, or_false] at hp
 rcases hp with rfl | rfl <;> exact (i4_1 _ _ _ _ rfl)
end Mine
end
section
open PySem PySem.W PyProof.Rows PySem.Calls
namespace Mine
variable {W : Wd} {n : Nat} {env : Env} {wr : List Str} {σ : Sto}
inductive ClsE (W : Wd) (C : Addr) (mN : Str → Option Value) : Prop where
 | mk : ∀ nm q N bs sn sub col dd k0 k1 k2 k3 k5, W.h₀.get? C = some (excClassObj nm q C N bs [.type "object"] true sn sub false col dd k0 k1 k2 k3 k5 "object.__new__") → W.h₀.Ns N mN → ClsE W C mN
inductive MtE (W : Wd) (st : Stmt) (dV : Value) (f : Addr) : Prop where
 | mk : ∀ o name qual kV doc pm an cdv ct, W.h₀.get? f = some o → o.cls = .type "function" → o.data = .func (fnOf name qual (fnA st) (fnB st) (fnS st) dV kV doc pm an cdv ct) → W.h₀.CodeRec cdv qual → MtE W st dV f
inductive InstE (W : Wd) (G : PH) (c f : Str) (x : PV) (v : Value) : Prop where
 | mk : ∀ a o C d od u, v = .ref a → W.mg c = some (.ref C) → G a = some o → o.cls = .ref C → (∀ c, o.data ≠ .cls c) → o.dict = some d → d ≠ a → G d = some od → NsIs od f u → Rep W G x u → InstE W G c f x v
structure ClsAt (W : Wd) (x : Str) (C : Addr) (mN : Str → Option Value) : Prop where
 at_ : W.mg x = some (.ref C)
 keep : KeepOk W (.ref C)
 obj : ClsE W C mN
structure MtOb (W : Wd) (st : Stmt) (dV : Value) (f : Addr) : Prop where
 obj : MtE W st dV f
theorem MtOb.fn {st : Stmt} {f : Addr} (h : MtOb W st .none f) : FnOb W st f := by
 obtain ⟨o, name, qual, kV, doc, pm, an, cdv, ct, a, b, c, d⟩ := h.obj
 exact ⟨o, name, qual, kV, doc, pm, an, cdv, ct, a, c, d⟩
theorem ClsAt.top_ {x : Str} {C : Addr} {mN : Str → Option Value} (h : ClsAt W x C mN) : W.Top x (.ref C) := .inl h.at_
theorem Rep.inst_inv {G : PH} {c f : Str} {x : PV} {v : Value} (h : Rep W G (.inst c f x) v) : InstE W G c f x v := by refine o6_10 h fun a o C d od u p1 p2 p3 p4 p5 p6 p7 p8 p9 p10 => ?_; clear h; exact ⟨a, o, C, d, od, u, p1, p2, p3, p4, p5, p6, p7, p8, p9, p10⟩
theorem NsIs.ns1 {h : Heap} {d : Addr} {od : Obj} {f : Str} {u : Value} (e : h.get? d = some od) (x : NsIs od f u) : h.Ns1 d (fun y => if y = f then some u else none) :=
 let ⟨es, ep, a, b, c, k⟩ := x; ⟨od, es, ep, e, a, b, c, k⟩
theorem Rep.isInst {N : Addr → Prop} {G : PH} {s : Shared} (H : Hp W N G s) {c f : Str} {x : PV} {v : Value} {C : Addr} {mN : Str → Option Value} (hC : ClsAt W c C mN) (h : Rep W G (.inst c f x) v) :
  ∃ a u, v = .ref a ∧ s.heap.Inst a C (fun y => if y = f then some u else none) ∧ Rep W G x u := by
 obtain ⟨a, o, C', d, od, u, rfl, m, g, c1, c2, c3, ne, g', ns, r⟩ := h.inst_inv
 rw [hC.at_] at m; cases m
 exact (i2_3 a u rfl ⟨o, H.gin _ _ g, c1, c2, .inr (i1_3 d c3 ne (ns.ns1 (H.gin _ _ g')))⟩ r)
theorem CallP.make {nmC : Str} {C fI : Addr} {mN : Str → Option Value} {st : Stmt} {dV : Value} {fld : Str} {p : PV} {Ψ : PV → Prop} (binds : Value → Value → List (Str × Value))
  (hC : ClsAt W nmC C mN) (hi : mN "__init__" = some (.ref fI)) (hm : MtOb W st dV fI) (hset : mN "__setattr__" = none) (hfld : mN fld = none) (hB : typeLookup (.type "object") fld = pure none)
  (hb : ∀ (s : Shared) name qual kV doc pm an cdv ct u v, (∀ b o, W.h₀.get? b = some o → s.heap.get? b = some o) → BindsTo s (fnOf name qual (fnA st) (fnB st) (fnS st) dV kV doc pm an cdv ct) ⟨[u, v], []⟩ (binds u v))
  (hloc : ∀ u v, ∀ x ∈ binds u v, (fnS st).names.lookup x.1 = some .local) (hcell : ∀ x ∈ (fnS st).names, x.2 ≠ .cell)
  (hex : ∀ (A : Around) (s : Shared) (env : Env) (Q : Flow → Shared → Prop) a v, env.scope = fnS st → s.heap.Ns env.locals (fun x => (binds (.ref a) v).reverse.lookup x) →
   wpAny W.M A (setAttr (.ref a) fld v) (fun _ => Q .next) NoE s → wpAny W.M A (execs (fnB st) env) Q NoE s)
  (h : Ψ (.inst nmC fld p))
  (hco : (fnS st).isCoroutine = false := by with_unfolding_all rfl) (hgen : (fnS st).isGenerator = false := by with_unfolding_all rfl) (hkf : (fnS st).kind = .function := by with_unfolding_all rfl) :
  CallP W (n + 1) (.val (.ref C)) [p] Ψ := fun A N G s f vs R H rf rv => by
 have := rf.val_inv; subst this; refine o1_2 rv.inv1 fun v zb rv1 => ?_; obtain rfl := zb
 obtain ⟨nm, q, Nn, bs, sn, sub, col, dd, k0, k1, k2, k3, k5, hc, hn⟩ := hC.obj
 obtain ⟨o, name, qual, kV, doc, pm, an, cdv, ct, ho, hoc, hod, hcd⟩ := hm.obj
 obtain ⟨hp, g, d, t, os⟩ := s
 refine wpAny_call_obj_init F.objNew (H.base _ _ hc) (hn.keeps H.base) hi (H.base _ _ ho) hoc fun h' x dx hM => ?_
 have base' : ∀ b o, W.h₀.get? b = some o → h'.get? b = some o := fun b o e => hM.keeps _ _ (H.base _ _ e)
 refine wpAny_call (codeAny_call_def (by have := R.depth; show A.depth + 1 < 1000; omega) (base' _ _ ho) hod (W.T.nolimit.keeps base') (hcd.keeps base') rfl (hb _ name qual kV doc pm an cdv ct _ _ base') hcell (hloc _ _) (fun h₁ hns hk => ?_) hco hgen hkf)
 refine wpAny_mono (hex _ _ _ (fun f s' => f = .next ∧ VPost W N G ⟨hp, g, d, t, os⟩ Ψ (.ref x) s') x v rfl hns ?_) (fun f s' hf => ?_) fun _ _ x => x.elim
 ·have hkF : ∀ b o, hp.get? b = some o → h₁.get? b = some o := fun b o e => hk _ _ (hM.keeps _ _ e)
  have hxC : x ≠ C := fun r => by
   have := hM.newX; rw [r, H.base _ _ hc] at this; cases this
  refine o1_4 hM.inst fun o0 ho0 hcl0 hnc0 hd0 => ?_
  have hdd := hM.dict o0 ho0
  have I : h₁.Inst x C (fun _ => none) := by
   refine ⟨o0, hk _ _ ho0, hcl0, hnc0, ?_⟩
   rcases hd0 with ⟨e, _⟩ | ⟨d', e1, e2, e3⟩
   ·rw [hdd] at e; cases e
   ·exact .inr (i1_3 d' e1 e2 (e3.at fun o e => hk _ _ e))
  refine store_attr PySem.F.store_object (hk _ _ (base' _ _ hc)) (hn.keeps fun b o e => hk _ _ (base' _ _ e)) hset hfld hB hxC I (ns := []) (fun h'' tk' I' hk' hsame => ⟨rfl, ?_⟩) ?_ ?_
  ·refine o1_5 (hsame o0 (hk _ _ ho0)) fun o1 ho1 hcl1 hda1 _ hdi1 => ?_
   refine o1_4 I' fun o1' ho1' hcl1' hnc1' hd1 => ?_; clear I'
   rw [ho1] at ho1'; cases ho1'
   have hdx := hdi1 dx hdd
   rcases hd1 with ⟨e, _⟩ | ⟨d', e1, e2, e3⟩
   ·rw [hdx] at e; cases e
   ·rw [hdx] at e1; cases e1
    refine o3_5 e3 fun od es ep hod' hds hsk huk hfd => ?_; clear e3
    have kF : HLeF hp h'' := fun b o e => by
     have nx : b ≠ x := fun r => by have := hM.newX; rw [← r, e] at this; cases this
     have nd : b ≠ dx := fun r => by have := hM.newD; rw [← r, e] at this; cases this
     refine hk' b o nx (fun o₀ d' hx' hd' => ?_) (hkF b o e)
     have e5 := hk _ _ ho0
     have e6 : some o0 = some o₀ := e5.symm.trans hx'
     cases e6
     rw [hdd] at hd'; cases hd'; exact nd
    have gx : G x = none := by
     cases e : G x with
     | none => rfl
     | some o' => have := H.gin _ _ e; have e2 := hM.newX; rw [this] at e2; cases e2
    have gd : G dx = none := by
     cases e : G dx with
     | none => rfl
     | some o' => have := H.gin _ _ e; have e2 := hM.newD; rw [this] at e2; cases e2
    have H2 : Hp W N G ⟨h'', g, d, tk', os⟩ := H.ext kF
    have g1 : G.Le (G.add x o1) := PH.Le.add gx
    have g2 : (G.add x o1).Le ((G.add x o1).add dx od) := PH.Le.add (by rw [PH.add_ne _ _ e2]; exact gd)
    refine ⟨(G.add x o1).add dx od, _, g1.trans g2, ⟨H2.base, (H2.gin.add ho1).add hod', fun a ha => ?_, H2.os, H2.gens, H2.pl, H2.ps⟩, HLe.full kF, ?_, h⟩
    ·have q := H2.nok a ha
     refine ⟨q.1, ?_⟩
     refine o0_2 (H.nok a ha) fun za _ => ?_; refine o1_1 za fun o' ho' => ?_; clear za
     rw [PH.add_ne, PH.add_ne]
     ·exact q.2
     ·intro r; have e2 := hM.newX; rw [← r, ho'] at e2; cases e2
     ·intro r; have e2 := hM.newD; rw [← r, ho'] at e2; cases e2
    ·refine i6_10 x o1 C dx od v rfl hC.at_ (g2 _ _ (PH.add_self ..)) (hcl1.trans hcl0) hnc1' hdx e2 (PH.add_self ..) ⟨es, ep, hds, hsk, huk, fun name => ?_⟩ (Rep.mono (g1.trans g2) _ _ rv1)
     rw [hfd]
  ·intro y hy; simp at hy
  ·decide
 ·refine o0_2 hf fun za hv => ?_; clear hf; obtain rfl := za
  exact ⟨rfl, hv⟩
end Mine
end
section
open PySem PySem.W PyProof.Rows PySem.Calls
namespace Mine
variable {W : Wd} {n : Nat} {env : Env} {wr : List Str} {σ : Sto}
theorem Ev.attr {x attr c : Str} {xp pos : Pos} {C : Addr} {mN : Str → Option Value} {p : PV} {Ψ : PV → Sto → Prop} (hC : ClsAt W c C mN) (hg : mN "__getattribute__" = none) (ha : mN attr = none) (hB : typeLookup (.type "object") attr = pure none)
  (hh : ∀ G v, Rep W G p v → handedOut v = pure v) (hx : Ev W n env wr (.Name x xp) σ fun q σ₁ => q = .inst c attr p ∧ Ψ p σ₁) : Ev W n env wr (.Attribute (.Name x xp) attr pos) σ Ψ := fun A N K G s R S => by
 refine Attribute_Name_ (bE (hx A N K G s R S) fun a q σ₁ G₁ s₁ g₁ S₁ r₁ zz => o0_2 zz fun e h => ?_)
 subst e
 obtain ⟨nm, q, Nn, bs, sn, sub, col, dd, k0, k1, k2, k3, k5, hc, hn⟩ := hC.obj
 refine o2_3 (Rep.isInst S₁.hp hC r₁) fun a u zc I ru => ?_; obtain rfl := zc
 have b := S₁.hp.base
 obtain ⟨hp, g, d, t, os⟩ := s₁
 exact load_attr (b _ _ hc) (hn.keeps b) hg ha hB I (if_pos rfl) (hh _ _ ru) ⟨G₁, p, σ₁, g₁, S₁.tok (t + 1), ru, h⟩
theorem MethT.inst {name c fld : Str} {C f : Addr} {mN : Str → Option Value} {p : PV} {st : Stmt} {dV : Value} {y : Option Value} (hC : ClsAt W c C mN) (hg : mN "__getattribute__" = none) (hg' : mN "__getattr__" = none) (hf : mN name = some (.ref f)) (hm : MtOb W st dV f)
  (hB : typeLookup (.type "object") name = pure y) (hne : name ≠ fld) : MethT W name (.inst c fld p) (.ref f) := fun A N G s v pl Q H r h => by
 obtain ⟨nm, q, Nn, bs, sn, sub, col, dd, k0, k1, k2, k3, k5, hc, hn⟩ := hC.obj
 obtain ⟨o, name', qual, kV, doc, pm, an, cdv, ct, ho, hoc, hod, hcd⟩ := hm.obj
 refine o2_3 (Rep.isInst H hC r) fun a u zc I ru => ?_; obtain rfl := zc
 have b := H.base
 obtain ⟨hp, g, d, t, os⟩ := s
 exact method_of (b _ _ hc) (hn.keeps b) hg hg' hf (b _ _ ho) hoc hB I (if_neg hne) h
theorem Rep.inst_ref {G : PH} {c f : Str} {x : PV} {v : Value} {C : Addr} {mN : Str → Option Value} {N : Addr → Prop} {s : Shared} (H : Hp W N G s) (hC : ClsAt W c C mN) (h : Rep W G (.inst c f x) v) : ∃ a o, v = .ref a ∧ s.heap.get? a = some o ∧ o.cls = .ref C := by
 obtain ⟨a, o, C', d, od, u, rfl, m, g, c1, r⟩ := h.inst_inv
 rw [hC.at_] at m; cases m
 exact (i2_3 a o rfl (H.gin _ _ g) c1)
theorem CmpP.own {op : CmpOp} {sym : String} {fn rn c fld : Str} {C f : Addr} {mN : Str → Option Value} {p q : PV} {st : Stmt} {dV : Value} {y : Option Value} {Ψ : PV → Prop} (hop : cmpInfo op = (sym, fn, rn)) (hpl : op ≠ .Is ∧ op ≠ .IsNot ∧ op ≠ .In ∧ op ≠ .NotIn)
  (hC : ClsAt W c C mN) (hf : mN fn = some (.ref f)) (hm : MtOb W st dV f) (hB : typeLookup (.type "object") fn = pure y)
  (h : CallP W n (.val (.ref f)) [.inst c fld p, .inst c fld q] fun r => ∃ b, r = .bool b ∧ Ψ (.bool b)) : CmpP W n op (.inst c fld p) (.inst c fld q) Ψ := fun A N G s u v R H ru rv => by
 obtain ⟨nm, q', Nn, bs, sn, sub, col, dd, k0, k1, k2, k3, k5, hc, hn⟩ := hC.obj
 obtain ⟨o, name', qual, kV, doc, pm, an, cdv, ct, ho, hoc, hod, hcd⟩ := hm.obj
 have hcall := h A N G s (.ref f) [u, v] R H (rfl) (Reps.cons ru (Reps.cons rv Reps.nil))
 refine o2_3 (Rep.inst_ref H hC ru) fun a oa zc ea ca => ?_; obtain rfl := zc
 refine o2_3 (Rep.inst_ref H hC rv) fun b ob zc eb cb => ?_; obtain rfl := zc
 have hb := H.base
 have hu : A.units < cLine := by have := R.u (d := 0) (by with_reducible exact Nat.le_add_left _ _); assumption
 obtain ⟨hp, g, d, t, os⟩ := s
 refine compareOp_own_same (B := "object") hop hpl ⟨oa, o, nm, q', Nn, bs, _, true, sn, sub, false, col, dd, k0, k1, k2, k3, k5, _, mN, y, ea, ca, hb _ _ hc, hn.keeps hb, hf, hb _ _ ho, hoc, F.mro_object, hB⟩ eb cb hu ?_
 refine wpAny_mono hcall (fun w s' ⟨G', r, g1, H1, k1, rr, bb, e, hΨ⟩ => ?_) fun _ _ x => x
 subst e
 have := rr.bool_inv; subst this
 exact (i1_2 bb rfl ⟨G', _, g1, H1, k1, Rep.b, hΨ⟩)
theorem CallP.isInst {c fld : Str} {C : Addr} {mN : Str → Option Value} {p : PV} {Ψ : PV → Prop} (hC : ClsAt W c C mN) (h : Ψ (.bool true)) : CallP W n (.val (.builtin "isinstance")) [.inst c fld p, .val (.ref C)] Ψ := fun A N G s f vs R H rf rv => by
 have := rf.val_inv; subst this
 refine o2_3 rv.inv2 ?_; clear rv; intro u v zc ru rv; obtain rfl := zc
 have := rv.val_inv; subst this
 refine o2_3 (Rep.inst_ref H hC ru) fun a oa zc ea ca => ?_; obtain rfl := zc
 refine isi_call (K := W.K) (t := .ref C) (fun b o e => H.base _ _ (W.X b o e)) (fun M => ?_) (by unfold isIn; simp) (fun e => nomatch e) (VPost.same H Rep.b h)
 rw [← ca]
 exact (Looks.ld ea).andThen .now
theorem hand_str {x : Str} (G : PH) (v : Value) (h : Rep W G (.str x) v) : handedOut v = pure v := by refine o1_1 h.str_inv fun t zb => ?_; obtain rfl := zb; rfl
theorem hand_list {xs : List PV} (G : PH) (v : Value) (h : Rep W G (.list xs) v) : handedOut v = pure v := by obtain ⟨a, _, _, _, rfl, _⟩ := h.list_inv; rfl
end Mine
end
section
open PySem PySem.W PyProof.Rows PySem.Calls
namespace Mine
local macro_rules | `(tactic| fail "look") => `(tactic| first | with_unfolding_all rfl | (repeat (first | (with_unfolding_all exact Sto.put_self _ _ _) | assumption | refine Sto.look (by decide) ?_)))
local macro_rules | `(tactic| fail "wr") => `(tactic| first | (with_unfolding_all exact Or.inl rfl) | (with_unfolding_all exact Or.inr (by decide)))
local macro_rules | `(tactic| fail "keep") => `(tactic| first | exact KeepOk.builtin | exact KeepOk.type | (apply FnOb.keep; assumption) | (apply FnOb.keep; apply FnAt.toFnOb; assumption) | assumption)
local macro_rules | `(tactic| fail "top") => `(tactic| first | assumption | (apply FnAt.top_; assumption))
local macro_rules | `(tactic| fail "ev") => do
 let a ← ("Ex.cons Ex.nil Ex1.ret Ex1.ite Ex1.brk Ex1.expr Ex1.asg Ex1.augS Ex1.setS Asgs.nil Asgs.cons Evs.nil Evs.cons EvKV.nil EvKV.cons Parts.no Parts.so Ev.cint Ev.cstrL Ev.cbytes Ev.cbool Ev.cnone Ev.bin Ev.un Ev.cmp Ev.ife Ev.slice Ev.subS Ev.methS Ev.listN Ev.tupN Ev.dict0 Ev.dict BinP.m8 BinP.m14 BinP.m13 BinP.m12 BinP.m3 BinP.m40 BinP.m6 BinP.m2 BinP.m1000000 BinP.d14 BinP.d182 BinP.d6 BinP.d3 BinP.d7 BinP.d5 BinP.d18 BinP.d9 BinP.d2 BinP.d64 BinP.addN BinP.addN1 IopP.addN BinP.addI BinP.subI UnP.negI IopP.addI CmpP.ltN CmpP.gtN CmpP.geN CmpP.eqN CmpP.neN CmpP.ltI CmpP.gtI CmpP.geI CmpP.eqI CmpP.neI CmpP.neSL CmpP.eqSL CmpP.ltS CmpP.gtS CmpP.eqS CmpP.neS CmpP.inS CmpP.neB CmpP.inD KTst.ite KTst.ife KIte.of KIfe.of KTst.tsts KTst.em KTst.mk KKV.mk KEnum.mk Tst.cmp Tst.boolop Tsts.nil Tsts.cons".splitOn " ").toArray.mapM fun n => `(Lean.Parser.Tactic.tacticSeq| refine $(Lean.mkIdent n.toName) ?_)
 let b ← ("Ex1.listN Ex1.dict0 Ex1.dict Ex1.assign Asg.name".splitOn " ").toArray.mapM fun n => `(Lean.Parser.Tactic.tacticSeq| refine $(Lean.mkIdent n.toName) (by fail "wr") ?_)
 `(tactic| with_reducible first | refine Ev.var (by fail "look") ?_ | (first $[| $b]*) | (first $[| $a]*) | refine Ex1.augName (by fail "wr") (by fail "look") ?_ | refine Ev.glob (by with_unfolding_all rfl) (by with_unfolding_all rfl) (by fail "top") ?_ | refine Ev.callGS (by fail "top") (by fail "keep") ?_ | refine BinP.modI (by decide) ?_ | refine BinP.divI (by decide) (by decide) ?_ | refine ⟨_, rfl, ?_⟩)
section
variable {W : Wd} {n : Nat}
theorem binds24 : Binds (top 24) ["script"] := fun name qual kV doc pm an cdv ct vals hv => by
 refine o1_1 (list1 hv) fun _ zb => ?_; obtain rfl := zb; rfl
def nums (d : List Nat) : PV := .list (d.map fun (n : Nat) => .int (n : Int))
theorem map_getN (d : List Nat) (k : Nat) : (d.map fun (n : Nat) => PV.int (n : Int))[k]? = (d[k]?).map fun (n : Nat) => PV.int (n : Int) := by simp
theorem enumPV_inv {ps : List PV} {i : Nat} {p : List PV} (h : (enumPV ps)[i]? = some p) : ∃ q, ps[i]? = some q ∧ p = [.int (i : Int), q] := by
 unfold enumPV at h
 rw [List.getElem?_map, List.getElem?_zipIdx] at h
 cases e' : ps[i]? with
 | none => rw [e'] at h; cases h
 | some q => rw [e'] at h; exact (i1_2 q rfl (by simpa using h.symm))
theorem numbers_ok {f : Addr} (hf : FnAt W "_law_numbers" 24 f) (hen : W.Top "enumerate" (.type "enumerate")) {l : List Int} (hl : l.length ≤ 64) {Ψ : PV → Prop} (h : ∀ d : List Nat, d.length = 8 → (∀ x ∈ d, x < 2 ^ 40) → Ψ (nums d)) :
  CallP W (n + 1) (.val (.ref f)) [.list (l.map .int)] Ψ := by
 refine CallP.ob hf.toFnOb ["script"] binds24 fun qual L cdv => ?_
 refine Ex.cons ?_
 fail "e"
 intro c
 fail "ev"
 refine Ex1.forTI (EvT'.enumerate (by rfl) (by rfl) hen (Ev.sub ?_))
 fail "e"
 refine SubP.listCut (lo := none) (hi := some 40) (by simp; exact Nat.le_trans hl (by decide)) (.mk ?_)
 refine forT.inv (fun i σ => i ≤ 40 ∧ ∃ d : List Nat, d.length = 8 ∧ (∀ x ∈ d, x < (i + 1) * 1048576) ∧ List.lookup (Str.ofString "drawn") σ = some (SV.ol c (d.map fun (n : Nat) => .int (n : Int)))) ?_ ?_ ?_
 ·refine ⟨Nat.zero_le _, [1026, 93, 48, 133, 85, 108, 28, 82], rfl, by decide, rfl⟩
 ·intro i p σ hp oI Φ k; refine o0_2 oI fun hi zz => ?_; clear oI; refine o1_3 zz fun d hd hb hs => ?_; clear zz
  refine o1_2 (enumPV_inv hp) fun q hq zc => ?_; obtain rfl := zc
  have hq' : i < 40 ∧ ∃ z : Int, q = .int z := by
   have hq : ((l.map PV.int).take 40)[i]? = some q := hq
   rw [List.getElem?_take] at hq
   by_cases h40 : i < 40
   ·rw [if_pos h40, List.getElem?_map] at hq
    cases e : l[i]? with
    | none => rw [e] at hq; cases hq
    | some z => rw [e] at hq; exact ⟨h40, z, by simpa using hq.symm⟩
   ·rw [if_neg h40] at hq; cases hq
  refine o0_2 hq' fun hlt zz => ?_; clear hq'; refine o1_1 zz fun z zb => ?_; clear zz; obtain rfl := zb
  refine ⟨rfl, ?_⟩
  fail "e"
  refine Ev.borrowL (by fail "look") ?_
  fail "e"
  have h8 : i % 8 < d.length := by omega
  refine GetS.list (x := "drawn") (by fail "look") (by with_reducible exact Om.castLt (Nat.mod_lt _ (by decide)) (by decide)) (by rw [map_getN, List.getElem?_eq_getElem h8]; rfl) ?_
  fail "e"
  have hz : ((z.fmod 1000000).toNat : Int) = z.fmod 1000000 := Int.toNat_of_nonneg (Int.fmod_nonneg_of_pos _ (by decide))
  have hz2 : (z.fmod 1000000).toNat < 1000000 := by have := Int.fmod_lt_of_pos z (show (0 : Int) < 1000000 by decide); omega
  rw [← hz]
  clear hq hp
  generalize (z.fmod 1000000).toNat = w at hz hz2
  clear hz
  fail "e"
  refine SetS.list (x := "drawn") (by fail "look") (by simp; assumption) (by with_reducible exact Om.castLt (Nat.mod_lt _ (by decide)) (by decide)) ?_
  fail "e"
  refine k _ ⟨hlt, d.set (i % 8) (d[i % 8] + w), by simpa using hd, fun x hx => ?_, ?_⟩
  ·rcases List.mem_or_eq_of_mem_set hx with hx | rfl
   ·exact Nat.lt_of_lt_of_le (hb x hx) (Nat.mul_le_mul_right _ (Nat.le_succ _))
   ·rw [Nat.succ_mul (i + 1)]; exact Nat.add_lt_add_of_lt_of_le (hb _ (List.getElem_mem h8)) (Nat.le_of_lt (Nat.lt_of_lt_of_le hz2 (by decide)))
  ·rw [List.map_set]; fail "look"
 ·rintro σ ⟨hi, d, hd, hb, hs⟩
  fail "e"
  refine Ev.own (by fail "look") rfl ?_
  exact h d hd fun x hx => by have := hb x hx; omega
end
section
variable {W : Wd} {n : Nat}
def ch (c : Nat) : Str := ⟨#[c]⟩
def C14 : List Nat := [9, 12, 32, 33, 34, 38, 46, 47, 55, 60, 62, 65, 97, 125]
theorem binds25 : Binds (top 25) ["number"] := fun name qual kV doc pm an cdv ct vals hv => by
 refine o1_1 (list1 hv) fun _ zb => ?_; obtain rfl := zb; rfl
def sgn (l : List Nat) : List PV := l.map fun c => .str (ch c)
theorem erm : ∀ (l : List Nat) (k : Nat), (sgn l).eraseIdx k = sgn (l.eraseIdx k)
 | [], _ => rfl
 | a :: l, 0 => rfl
 | a :: l, k + 1 => congrArg (List.cons _) (erm l k)
theorem CallS.popN {env : Env} {wr : List Str} {σ : Sto} {x : Str} {c : Addr} {xs : List PV} {k : Nat} {p : PV} {Ψ : PV → Sto → Prop} (hx : σ.lookup x = some (.ol c xs)) (hs : xs.length ≤ 64) (hk : k < 64) (hp : xs[k]? = some p) (h : Ψ p (σ.put x (.ol c (xs.eraseIdx k)))) :
  CallS W n env wr (.builtin "list.pop") [.val (.ref c), .int (k : Int)] σ Ψ := CallS.pop hx (Nat.le_trans hs (by decide)) (Int.natCast_nonneg _) (by with_reducible exact Om.castLt (by assumption) (by decide)) (by rw [Int.toNat_natCast]; exact hp) (by rw [Int.toNat_natCast]; exact h)
theorem signs_ok {f : Addr} (hf : FnAt W "_law_signs" 25 f) {m : Nat} {Ψ : PV → Prop} (h : ∀ a b c : Nat, [a, b, c].Nodup → (∀ x ∈ [a, b, c], x ∈ C14) → Ψ (.list (sgn [a, b, c]))) :
  CallP W (n + 1) (.val (.ref f)) [.int (m : Int)] Ψ := by
 refine CallP.ob hf.toFnOb ["number"] binds25 fun qual L cdv => ?_
 refine Ex.cons ?_
 fail "e"
 intro c
 change Ex W n _ _ _ (Sto.put _ "signs" (SV.ol c (sgn C14))) _
 fail "ev"
 fail "ev"
 have get : ∀ (l : List Nat) (k : Nat), k < l.length → ∃ c, l[k]? = some c ∧ (sgn l)[k]? = some (.str (ch c)) ∧ (sgn l).eraseIdx k = sgn (l.eraseIdx k) := fun l k hk =>
  (i1_3 (l[k]) (List.getElem?_eq_getElem hk) (by simp [sgn, hk]) (erm l k))
 have er : ∀ (l : List Nat) (k : Nat) (a : Nat), l.Nodup → l[k]? = some a → (l.eraseIdx k).Nodup ∧ (l.eraseIdx k).length + 1 = l.length ∧ (∀ x ∈ l.eraseIdx k, x ∈ l ∧ x ≠ a) := fun l k a hn hk => by
  refine o1_1 (List.getElem?_eq_some_iff.mp hk) fun hlt e => ?_
  refine ⟨hn.eraseIdx k, by rw [List.length_eraseIdx_of_lt hlt]; omega, fun x hx => ?_⟩
  refine o1_1 (List.mem_eraseIdx_iff_getElem.mp hx) fun j zz => ?_; refine o1_2 zz fun hjl hj e2 => ?_; clear zz
  exact ⟨by rw [← e2]; exact List.getElem_mem _, fun q => hj (by have := (List.getElem_inj hn).mp (e2.trans (q.trans e.symm)); exact this)⟩
 refine o1_3 (get C14 (m % 14) (Nat.mod_lt _ (by decide))) fun a ha ha' ea => ?_
 refine o0_3 (er C14 _ a (by decide) ha) fun n1 l1 m1 => ?_
 refine o1_3 (get _ (m / 14 % 13) (show _ < (C14.eraseIdx (m % 14)).length by have := Nat.mod_lt (m / 14) (show 0 < 13 by decide); have : C14.length = 14 := rfl; omega)) fun b hb hb' eb => ?_
 refine o0_3 (er _ _ b n1 hb) fun n2 l2 m2 => ?_
 refine o1_3 (get _ (m / 182 % 12) (show _ < ((C14.eraseIdx (m % 14)).eraseIdx (m / 14 % 13)).length by have := Nat.mod_lt (m / 182) (show 0 < 12 by decide); have : C14.length = 14 := rfl; omega)) fun d hd hd' ed => ?_
 refine Ev.methS (Ev.borrowL (by fail "look") ⟨_, MethS.list (x := "signs") (by fail "look") F.slot_list_pop F.type_list_pop, KeepOk.builtin, ?_⟩)
 fail "e"
 refine CallS.popN (x := "signs") (by fail "look") (by decide) (by have := Nat.mod_lt m (show 0 < 14 by decide); with_reducible exact Nat.lt_of_lt_of_le (by assumption) (by decide)) ha' ?_
 rw [ea]
 fail "ev"
 fail "ev"
 refine Ev.methS (Ev.borrowL (by fail "look") ⟨_, MethS.list (x := "signs") (by fail "look") F.slot_list_pop F.type_list_pop, KeepOk.builtin, ?_⟩)
 fail "e"
 refine CallS.popN (x := "signs") (by fail "look") (by have : C14.length = 14 := rfl; simp only [sgn, List.length_map]; omega) (by have := Nat.mod_lt (m / 14) (show 0 < 13 by decide); with_reducible exact Nat.lt_of_lt_of_le (by assumption) (by decide)) hb' ?_
 rw [eb]
 fail "e"
 refine Ev.borrowL (by fail "look") ⟨_, MethS.list (x := "signs") (by fail "look") F.slot_list_pop F.type_list_pop, KeepOk.builtin, ?_⟩
 fail "e"
 refine CallS.popN (x := "signs") (by fail "look") (by have : C14.length = 14 := rfl; simp only [sgn, List.length_map]; omega) (by have := Nat.mod_lt (m / 182) (show 0 < 12 by decide); with_reducible exact Nat.lt_of_lt_of_le (by assumption) (by decide)) hd' ?_
 fail "e"
 refine h a b d ?_ ?_
 ·have mb := List.mem_of_getElem? hb; have md := List.mem_of_getElem? hd
  have x1 := (m1 b mb).2; have x2 := (m2 d md); have x3 := (m1 d x2.1).2
  simp; exact ⟨⟨Ne.symm x1, Ne.symm x3⟩, Ne.symm x2.2⟩
 ·have mb := List.mem_of_getElem? hb; have md := List.mem_of_getElem? hd
  intro x hx
  rcases List.mem_cons.mp hx with rfl | hx
  ·exact List.mem_of_getElem? ha
  ·rcases List.mem_cons.mp hx with rfl | hx
   ·exact (m1 _ mb).1
   ·rw [List.mem_singleton.mp hx]; exact (m1 _ (m2 _ md).1).1
end
section
variable {W : Wd} {n : Nat} {env : Env} {wr : List Str} {σ : Sto}
def txs (ns : List (List Nat)) : List PV := ns.map fun l => .str (S l)
theorem txs_get (ns : List (List Nat)) (k : Nat) : (txs ns)[k]? = (ns[k]?).map fun l => .str (S l) := by simp [txs]
theorem CmpS.inSL {x : Str} {c : Addr} {ns : List (List Nat)} {l : List Nat} {Ψ : PV → Sto → Prop} (hx : σ.lookup x = some (.ol c (txs ns))) (h : Ψ (.bool (ns.contains l)) σ) :
  CmpS W n env wr .In (.str (S l)) (.val (.ref c)) σ Ψ := by
 have e : txs ns = (ns.map S).map .str := by simp [txs]
 refine CmpS.inL (ys := ns.map S) (by rw [← e]; exact hx) ?_
 have e2 : ((ns.map S).any fun x => x == S l) = ns.contains l := by
  rw [List.any_map, List.contains_eq_any_beq]
  congr 1; funext y; simp only [Function.comp, S_beq]
  exact Bool.beq_comm ..
 rw [e2]; exact h
structure NamesOk (sig : List Nat) (ns : List (List Nat)) : Prop where
 first : ns[0]? = some []
 nodup : ns.Nodup
 up : ∀ (k : Nat) (l : List Nat), ns[k]? = some l → k ≠ 0 → l ≠ [] ∧ l.dropLast ∈ ns.take k
 of_ : ∀ l ∈ ns, ∀ x ∈ l, x ∈ sig
 len : ∀ (k : Nat) (l : List Nat), ns[k]? = some l → l.length ≤ k
theorem NamesOk.start (sig : List Nat) : NamesOk sig [[]] := by
 refine ⟨rfl, by simp, fun k l h hk => ?_, by simp, fun k l h => ?_⟩
 ·cases k with
  | zero => exact absurd rfl hk
  | succ k => simp at h
 ·cases k with
  | zero => simp at h; subst h; simp
  | succ k => simp at h
theorem NamesOk.add {sig : List Nat} {ns : List (List Nat)} (h : NamesOk sig ns) {l : List Nat} (hl : l ∉ ns) (hn : l ≠ []) (hd : l.dropLast ∈ ns) (ho : ∀ x ∈ l, x ∈ sig) : NamesOk sig (ns ++ [l]) := by
 have h0 : 0 < ns.length := (List.getElem?_eq_some_iff.mp h.first).1
 have hlen : l.length ≤ ns.length := by
  refine o1_1 (List.getElem?_of_mem hd) fun j hj => ?_
  have := h.len j _ hj
  have := (List.getElem?_eq_some_iff.mp hj).1
  rw [List.length_dropLast] at *; omega
 refine ⟨by rw [List.getElem?_append_left h0]; exact h.first, ?_, fun k m hm hk => ?_, fun m hm => ?_, fun k m hm => ?_⟩
 ·rw [List.nodup_append]; exact ⟨h.nodup, by simp, fun a ha b hb => by rw [List.mem_singleton.mp hb]; exact fun q => hl (q ▸ ha)⟩
 ·by_cases hlt : k < ns.length
  ·rw [List.getElem?_append_left hlt] at hm
   refine o0_2 (h.up k m hm hk) fun a b => ?_
   exact ⟨a, by rw [List.take_append_of_le_length (Nat.le_of_lt hlt)]; exact b⟩
  ·rw [List.getElem?_append_right (by with_reducible exact Nat.le_of_not_lt (by assumption))] at hm
   have hk' : k - ns.length = 0 := by
    cases q : k - ns.length with
    | zero => rfl
    | succ j => rw [q] at hm; simp at hm
   rw [hk'] at hm; simp at hm; subst hm
   have : k = ns.length := Nat.le_antisymm (Nat.le_of_sub_eq_zero hk') (Nat.le_of_not_lt hlt)
   subst this
   exact ⟨hn, by rw [List.take_append_of_le_length (Nat.le_refl _), List.take_length]; exact hd⟩
 ·rcases List.mem_append.mp hm with hm | hm
  ·exact h.of_ m hm
  ·rw [List.mem_singleton.mp hm]; exact ho
 ·by_cases hlt : k < ns.length
  ·rw [List.getElem?_append_left hlt] at hm; exact h.len k m hm
  ·rw [List.getElem?_append_right (by with_reducible exact Nat.le_of_not_lt (by assumption))] at hm
   have hk' : k - ns.length = 0 := by
    cases q : k - ns.length with
    | zero => rfl
    | succ j => rw [q] at hm; simp at hm
   rw [hk'] at hm; simp at hm; subst hm; omega
theorem binds26 : Binds (top 26) ["drawn", "signs"] := fun name qual kV doc pm an cdv ct vals hv => by
 refine o2_1 (list2 hv) fun _ _ zc => ?_; obtain rfl := zc; rfl
theorem names_ok {f : Addr} (hf : FnAt W "_law_names" 26 f) (hle : W.Top "len" (.builtin "len")) {d sig : List Nat} (hd : d.length = 8) (hs : sig.length = 3) {Ψ : PV → Prop}
  (h : ∀ ns : List (List Nat), ns.length = 6 → NamesOk sig ns → Ψ (.list (txs ns))) :
  CallP W (n + 1) (.val (.ref f)) [nums d, .list (sgn sig)] Ψ := by
 refine CallP.ob hf.toFnOb ["drawn", "signs"] binds26 fun qual L cdv => ?_
 refine Ex.cons ?_
 fail "e"
 intro c
 fail "ev"
 refine Ex1.forI (EvI.of (Ev.sub ?_))
 fail "e"
 refine SubP.listCut (lo := some 1) (hi := some 6) (by rw [List.length_map, hd]; decide) ⟨_, IterP.list, ?_⟩
 refine forL.inv (fun i σ => i ≤ 5 ∧ List.lookup (Str.ofString "signs") σ = some (SV.fz (.list (sgn sig))) ∧ ∃ ns : List (List Nat), ns.length = i + 1 ∧ NamesOk sig ns ∧ List.lookup (Str.ofString "names") σ = some (SV.ol c (txs ns))) ?_ ?_ ?_
 ·exact ⟨Nat.zero_le _, rfl, [[]], rfl, NamesOk.start sig, rfl⟩
 ·intro i p σ hp oI Φ k; refine o0_3 oI fun hi h1 zz => ?_; clear oI; refine o1_3 zz fun ns hn ho h2 => ?_; clear zz
  have hq : i < 5 ∧ ∃ z : Nat, p = .int (z : Int) := by
   have hlen := (List.getElem?_eq_some_iff.mp hp).1
   have hp' : (((d.map fun (n : Nat) => PV.int (n : Int)).take 6).drop 1)[i]? = some p := hp
   rw [List.getElem?_drop, List.getElem?_take] at hp'
   by_cases h40 : 1 + i < 6
   ·rw [if_pos h40, List.getElem?_map] at hp'
    cases e : d[1 + i]? with
    | none => rw [e] at hp'; cases hp'
    | some z => rw [e] at hp'; exact ⟨Nat.lt_of_add_lt_add_left (show 1 + i < 1 + 5 from h40), z, by simpa using hp'.symm⟩
   ·rw [if_neg h40] at hp'; cases hp'
  refine o0_2 hq fun hlt zz => ?_; clear hq; refine o1_1 zz fun z zb => ?_; clear zz; obtain rfl := zb
  fail "e"
  refine Ev.borrowL (by fail "look") ?_
  fail "e"
  refine Ev.borrowL (by fail "look") ?_
  fail "e"
  have hlen : (txs ns).length = i + 1 := by rw [txs, List.length_map, hn]
  refine CallS.len (x := "names") (by fail "look") (by rw [hlen]; with_reducible exact Om.succLt (by assumption) (by decide)) ?_
  refine BinP.modN (by rw [hlen]; exact Nat.succ_ne_zero _) ?_
  have hj : z % (txs ns).length < ns.length := by rw [hlen, hn]; exact Nat.mod_lt _ (Nat.succ_pos _)
  generalize z % (txs ns).length = j at hj
  refine SubS.list (x := "names") (by fail "look") (Int.natCast_nonneg _) (Om.castLt (K := 6) (Nat.lt_of_lt_of_le (Nat.lt_of_lt_of_eq hj hn) (Nat.succ_le_succ hi)) (by decide)) (by rw [Int.toNat_natCast, txs_get, List.getElem?_eq_getElem hj]; rfl) ?_
  fail "e"
  have hm : z / 6 % 3 < sig.length := by rw [hs]; exact Nat.mod_lt _ (by decide)
  refine Ex1.whil (fun m σ => List.lookup (Str.ofString "number") σ = some (SV.fz (.int (z : Int))) ∧ List.lookup (Str.ofString "signs") σ = some (SV.fz (.list (sgn sig))) ∧ List.lookup (Str.ofString "names") σ = some (SV.ol c (txs ns)) ∧
    ∃ l : List Nat, List.lookup (Str.ofString "name") σ = some (SV.fz (.str (S l))) ∧ m + l.length = 8 ∧ (∀ x ∈ l, x ∈ sig) ∧ (l ∈ ns ∨ (l ≠ [] ∧ l.dropLast ∈ ns))) (fun m σ hI => ?_) (8 - (ns[j]).length) ?_
  ·refine o0_4 hI fun a1 a2 a3 zz => ?_; clear hI; refine o1_4 zz fun l a4 a5 a6 a7 => ?_; clear zz
   refine Tst.cmpS ?_
   fail "e"
   refine Ev.borrowL (by fail "look") (CmpS.inSL (x := "names") (by fail "look") (.mk ?_))
   cases hc : ns.contains l with
   | true =>
    have hl : l ∈ ns := by simpa using hc
    have hl7 : l.length ≤ i := by
     refine o1_1 (List.getElem?_of_mem hl) fun q hq => ?_
     have := ho.len q l hq
     have := (List.getElem?_eq_some_iff.mp hq).1
     exact Nat.le_trans (ho.len q l hq) (Nat.le_of_lt_succ (Nat.lt_of_lt_of_eq (List.getElem?_eq_some_iff.mp hq).1 hn))
    refine iteP rfl ?_
    fail "e"
    refine SubS.of (SubP.list (p := .str (S [sig[z / 6 % 3]])) (Int.natCast_nonneg _) (by with_reducible exact Om.castLt (Nat.mod_lt _ (by decide)) (by decide)) (by rw [Int.toNat_natCast, sgn, List.getElem?_map, List.getElem?_eq_getElem hm]; rfl) ?_)
    refine BinP.addSL (by rw [List.length_singleton]; exact Nat.le_trans (Nat.succ_le_succ (Nat.le_trans hl7 hi)) (by decide)) ?_
    fail "e"
    refine (i1_5 (m - 1) (Om.dn1 a5 (Nat.lt_of_le_of_lt (Nat.le_trans hl7 hi) (by decide))) (by fail "look") (by fail "look") (by fail "look") ⟨l ++ [sig[z / 6 % 3]], by fail "look", by rw [List.length_append, List.length_singleton]; exact Om.dn2 a5 (Nat.lt_of_le_of_lt (Nat.le_trans hl7 hi) (by decide)), ?_, .inr ⟨by simp, by simpa using hl⟩⟩)
    intro x hx
    rcases List.mem_append.mp hx with hx | hx
    ·exact a6 x hx
    ·rw [List.mem_singleton.mp hx]; exact List.getElem_mem hm
   | false =>
    have hl : l ∉ ns := by simpa using hc
    refine iteN (by decide) ?_
    have a7 := a7.resolve_left hl
    fail "e"
    refine Ev.borrowL (by fail "look") ⟨_, MethS.list (x := "names") (by fail "look") F.slot_list_append F.type_list_append, KeepOk.builtin, ?_⟩
    fail "e"
    refine CallS.append (x := "names") (by fail "look") (by rw [hlen]; exact Nat.le_trans (by exact Nat.le_trans (Nat.succ_le_succ (by assumption)) (by decide) : i + 1 ≤ 64) (by decide)) ?_
    fail "e"
    exact k _ ⟨by assumption, by fail "look", ns ++ [l], by simp [hn], ho.add hl a7.1 a7.2 a6, by rw [show txs (ns ++ [l]) = txs ns ++ [.str (S l)] by simp [txs]]; fail "look"⟩
  ·have hm' := ho.len j _ (List.getElem?_eq_getElem hj)
   exact ⟨by fail "look", by fail "look", by fail "look", _, by fail "look", Nat.sub_add_cancel (Nat.le_trans hm' (Nat.le_trans (Nat.le_of_lt_succ (Nat.lt_of_lt_of_eq hj hn)) (Nat.le_trans hi (by decide)))), ho.of_ _ (List.getElem_mem hj), .inl (List.getElem_mem hj)⟩
 ·rintro σ ⟨hi, h1, ns, hn, ho, h2⟩
  fail "e"
  refine Ev.own (by fail "look") rfl ?_
  refine h ns ?_ ho
  rw [hn]
  show (((d.map fun (n : Nat) => PV.int (n : Int)).take 6).drop 1).length + 1 = 6
  simp [hd]
end
section
variable {W : Wd} {n : Nat} {env : Env} {wr : List Str} {σ : Sto}
def rep (c : Nat) (r : List Nat) (l : List Nat) : List Nat := l.flatMap fun k => if k = c then r else [k]
theorem rep_app (c : Nat) (r a b : List Nat) : rep c r (a ++ b) = rep c r a ++ rep c r b := by simp [rep]
theorem rep_free (c : Nat) (r : List Nat) : ∀ l : List Nat, c ∉ l → rep c r l = l
 | [], _ => rfl
 | k :: l, h => by
  have h1 : ¬ k = c := fun e => h (e ▸ List.mem_cons_self ..)
  have h2 : c ∉ l := fun m => h (List.mem_cons_of_mem _ m)
  have := rep_free c r l h2
  unfold rep at this ⊢
  rw [List.flatMap_cons, if_neg h1, this]; rfl
theorem rep_join (c : Nat) (z : Str) : ∀ parts : List Str, (∀ p ∈ parts, c ∉ p.cps.toList) → rep c z.cps.toList (Str.join ⟨#[c]⟩ parts).cps.toList = (Str.join z parts).cps.toList
 | [], _ => rfl
 | [p], h => rep_free c _ _ (h p (List.mem_singleton.mpr rfl))
 | p :: q :: r, h => by
  have ih := rep_join c z (q :: r) fun a ha => h a (List.mem_cons_of_mem _ ha)
  show rep c z.cps.toList (p ++ ⟨#[c]⟩ ++ Str.join ⟨#[c]⟩ (q :: r)).cps.toList = (p ++ z ++ Str.join z (q :: r)).cps.toList
  simp only [Str.cps_append, Array.toList_append]
  rw [rep_app, rep_app, ih, rep_free c _ _ (h p (List.mem_cons_self ..))]
  show p.cps.toList ++ rep c z.cps.toList [c] ++ _ = _
  simp [rep]
theorem replace_S (l r : List Nat) (c : Nat) : Txt.replace (S l) (S [c]) (S r) = S (rep c r l) := by
 refine Str.ext' (Array.toList_inj.mp ?_)
 have := StrLaws.replace_one (S l) (S r) c
 rw [show S [c] = ⟨#[c]⟩ from rfl, this]
 have h2 := rep_join c (S r) _ (StrLaws.split_free (S l) c)
 rw [StrLaws.join_split] at h2
 rw [← h2]; simp [S]
theorem found_S (l : List Nat) (c : Nat) : (!(Builtin.Str.occurrences (S l) (S [c]) 0 (S l).length 1).isEmpty) = decide (c ∈ l) := by
 rw [show S [c] = ⟨#[c]⟩ from rfl, StrLaws.found_one]; exact decide_eq_decide.mpr (by simp [S])
theorem replace_wp {A : Around} {N : Addr → Prop} {K G : PH} {s : Shared} {x : Str} {t y z : Str} {apos xpos pos : Pos} {ky kz : Nat} {py pz : Pos} {pl : Sem Bool} {Q : Value → Shared → Prop} (S₀ : St W N K G env wr σ s) (ht : 0 < s.toks) (hx : σ.lookup x = some (.fz (.str t)))
  (hyz : (y == z) = false) (hb : t.length + (t.length + 1) * z.length ≤ 16777216)
  (h : ∀ v k, Rep W G (.str (Txt.replace t y z)) v → Q v { s with toks := k })
  (he : eval (.Call (.Attribute (.Name x xpos) "replace" apos) [.Constant (.str y) ky py, .Constant (.str z) kz pz] [] pos) env = (do
   let ov ← eval (.Name x xpos) env
   standAt apos.atName
   let (f, first) ← holding [ov] (getMethod ov "replace" pl)
   callWith pos f first (backTo pos (starEach [.Constant (.str y) ky py, .Constant (.str z) kz pz] env)) []))
  (hd : (x == ("__debug__" : Str)) = false := by decide) (hn : (x == ("__classdict__" : Str)) = false := by decide) :
  wpAny W.M A (eval (.Call (.Attribute (.Name x xpos) "replace" apos) [.Constant (.str y) ky py, .Constant (.str z) kz pz] [] pos) env) Q NoE s := by
 refine o1_2 (S₀.vars x _ hx) fun v h1 h2 => ?_
 refine o1_1 (Rep.str_inv (W := W) (G := G) h2) fun tk zb => ?_; obtain rfl := zb
 refine MethodCall_ (wpAny_Name (S₀.load h1 (GM.replace ?_) hn) hd) he
 refine callWith_of (P := fun _ => True) (by rfl) (fun hh _ => (i1_2 .machine (.inr (.inl rfl)) (fun _ _ _ _ _ q => wpAny_pure q))) ?_
 refine Calls.evalArgs_plain (wpAny_items_cons (wpAny_Constant_str (wpAny_items_cons (wpAny_Constant_str (wpAny_items_nil ⟨trivial, ?_⟩)) rfl)) rfl)
 exact SC.replace (Nat.pos_iff_ne_zero.mp ht) (Nat.succ_ne_zero _) (Nat.ne_of_lt (Nat.lt_succ_self _)) hyz hb fun t' k => h _ k Rep.st
theorem Ex1.esc {x : Str} {l r : List Nat} {c : Nat} {y z w : Str} {ky kz kw : Nat} {xp xp1 xp2 apos cpos pos apos' ipos py pz pw : Pos} {pl : Sem Bool} {Φ : PF → Sto → Prop} (hx : σ.lookup x = some (.fz (.str (S l)))) (hw : Writable env wr x)
  (hc : w = S [c]) (hy : y = S [c]) (hz : z = S r) (hlen : l.length ≤ 1000000) (hr : 2 ≤ r.length) (hr2 : r.length ≤ 6)
  (h : ∀ σ', (∀ u, u ≠ x → σ'.lookup u = σ.lookup u) → σ'.lookup x = some (.fz (.str (S (rep c r l)))) → Φ .next σ')
  (hm : behindInMarks .In (Expr.Name x xp) = false := by with_unfolding_all rfl)
  (he : eval (.Call (.Attribute (.Name x xp2) "replace" apos) [.Constant (.str y) ky py, .Constant (.str z) kz pz] [] cpos) env = (do
   let ov ← eval (.Name x xp2) env
   standAt apos.atName
   let (f, first) ← holding [ov] (getMethod ov "replace" pl)
   callWith cpos f first (backTo cpos (starEach [.Constant (.str y) ky py, .Constant (.str z) kz pz] env)) []) := by with_unfolding_all rfl)
  (hs : swapsWith (.Call (.Attribute (.Name x xp2) "replace" apos) [.Constant (.str y) ky py, .Constant (.str z) kz pz] [] cpos) (some (.Name x xp1)) apos'.line env = pure false := by with_unfolding_all rfl)
  (hd : (x == ("__debug__" : Str)) = false := by decide) (hn : (x == ("__classdict__" : Str)) = false := by decide) :
  Ex1 W n env wr (.If (.Compare (.Constant (.str w) kw pw) [.In] [.Name x xp] pos)
   [.Assign [.Name x xp1] (.Call (.Attribute (.Name x xp2) "replace" apos) [.Constant (.str y) ky py, .Constant (.str z) kz pz] [] cpos) apos'] [] ipos) σ Φ := fun A N K G s R S₀ => by
 subst hc hy hz
 refine o1_2 (S₀.vars x _ hx) fun v h1 h2 => ?_
 refine o1_1 (Rep.str_inv (W := W) (G := G) h2) fun tk zb => ?_; obtain rfl := zb
 refine wpAny_If (wpAny_isTrue_Compare1 (hm := hm) (wpAny_Constant_str (wpAny_Name ((S₀.tok _).load h1 (in_str (wpAny_truthy_bool ?_)) hn) hd)))
 rw [found_S]
 by_cases hc : c ∈ l
 ·refine iteP (by simpa using hc) ?_
  refine wpAny_execs_cons (wpAny_Assign_Name (hs := hs) (replace_wp (S₀.tok _) (Nat.succ_pos _) hx ?_ ?_ (fun v k rv => ?_) he hd hn))
  ·rw [S_beq]
   cases r with
   | nil => simp at hr
   | cons a r =>
    cases r with
    | nil => simp at hr
    | cons b r => exact beq_eq_false_iff_ne.mpr fun q => by simp at q
  ·rw [S_len, S_len]
   exact Nat.le_trans (Nat.add_le_add hlen (Nat.mul_le_mul (Nat.succ_le_succ hlen) hr2)) (by decide)
  ·rw [replace_S] at rv
   refine (S₀.tok k).storeFz hw rv fun s' S' => wpAny_execs_nil ⟨G, .next, _, PH.Le.refl G, S', rfl, h _ (fun u hu => Sto.put_ne _ hu _) (Sto.put_self ..)⟩
 ·refine iteN (by simpa using hc) ?_
  exact wpAny_execs_nil ⟨G, .next, σ, PH.Le.refl G, S₀.tok _, rfl, h σ (fun _ _ => rfl) (by rw [rep_free c r l hc]; exact hx)⟩
theorem rep_le {c : Nat} {r l : List Nat} {k m : Nat} (h : r.length ≤ 6) (hl : l.length ≤ k) (hk : 6 * k ≤ m) : (rep c r l).length ≤ m := by
 refine Nat.le_trans ?_ hk
 refine Nat.le_trans ?_ (Nat.mul_le_mul_left 6 hl)
 clear hl hk
 induction l with
 | nil => simp [rep]
 | cons a l ih =>
  unfold rep at ih ⊢
  rw [List.flatMap_cons, List.length_append]
  have : (if a = c then r else [a]).length ≤ 6 := by
   split
   ·exact h
   ·exact Nat.le_trans (Nat.le_of_eq rfl : [a].length ≤ 1) (by decide)
  simp only [List.length_cons]; omega
theorem binds19 : Binds (top 19) ["text"] := fun name qual kV doc pm an cdv ct vals hv => by
 refine o1_1 (list1 hv) fun _ zb => ?_; obtain rfl := zb; rfl
def escC (l : List Nat) : List Nat := rep 62 (lit "&gt;") (rep 60 (lit "&lt;") (rep 38 (lit "&amp;") l))
theorem escC_ok {f : Addr} (hf : FnAt W "_escape_cdata" 19 f) {l : List Nat} (hl : l.length ≤ 5) {Ψ : PV → Prop} (h : Ψ (.str (S (escC l)))) : CallP W (n + 1) (.val (.ref f)) [.str (S l)] Ψ := by
 refine CallP.ob hf.toFnOb ["text"] binds19 fun qual L cdv => ?_
 refine Ex.cons (Ex1.tr ?_)
 have b0 := hl
 have h0 : List.lookup (Str.ofString "text") ([Str.ofString "text"].zip (List.map SV.fz [PV.str (S l)])) = some (.fz (.str (S l))) := rfl
 refine Ex.cons (Ex1.esc (c := 38) (r := lit "&amp;") h0 (by fail "wr") (by rfl) (by rfl) (by rfl) (Nat.le_trans b0 (by decide)) (by decide) (by decide) fun σ1 k1 h1 => ?_)
 have b1 : (rep 38 (lit "&amp;") l).length ≤ 30 := rep_le (by decide) b0 (by decide)
 refine Ex.cons (Ex1.esc (c := 60) (r := lit "&lt;") h1 (by fail "wr") (by rfl) (by rfl) (by rfl) (Nat.le_trans b1 (by decide)) (by decide) (by decide) fun σ2 k2 h2 => ?_)
 have b2 : (rep 60 (lit "&lt;") (rep 38 (lit "&amp;") l)).length ≤ 180 := rep_le (by decide) b1 (by decide)
 refine Ex.cons (Ex1.esc (c := 62) (r := lit "&gt;") h2 (by fail "wr") (by rfl) (by rfl) (by rfl) (Nat.le_trans b2 (by decide)) (by decide) (by decide) fun σ3 k3 h3 => ?_)
 have b3 : (rep 62 (lit "&gt;") (rep 60 (lit "&lt;") (rep 38 (lit "&amp;") l))).length ≤ 1080 := rep_le (by decide) b2 (by decide)
 fail "e"
 exact h
theorem binds20 : Binds (top 20) ["text"] := fun name qual kV doc pm an cdv ct vals hv => by
 refine o1_1 (list1 hv) fun _ zb => ?_; obtain rfl := zb; rfl
def escA (l : List Nat) : List Nat := rep 9 (lit "&#09;") (rep 10 (lit "&#10;") (rep 13 (lit "&#13;") (rep 34 (lit "&quot;") (rep 62 (lit "&gt;") (rep 60 (lit "&lt;") (rep 38 (lit "&amp;") l))))))
theorem escA_ok {f : Addr} (hf : FnAt W "_escape_attrib" 20 f) {l : List Nat} (hl : l.length ≤ 5) {Ψ : PV → Prop} (h : Ψ (.str (S (escA l)))) : CallP W (n + 1) (.val (.ref f)) [.str (S l)] Ψ := by
 refine CallP.ob hf.toFnOb ["text"] binds20 fun qual L cdv => ?_
 refine Ex.cons (Ex1.tr ?_)
 have b0 := hl
 have h0 : List.lookup (Str.ofString "text") ([Str.ofString "text"].zip (List.map SV.fz [PV.str (S l)])) = some (.fz (.str (S l))) := rfl
 refine Ex.cons (Ex1.esc (c := 38) (r := lit "&amp;") h0 (by fail "wr") (by rfl) (by rfl) (by rfl) (Nat.le_trans b0 (by decide)) (by decide) (by decide) fun σ1 k1 h1 => ?_)
 have b1 : (rep 38 (lit "&amp;") l).length ≤ 30 := rep_le (by decide) b0 (by decide)
 refine Ex.cons (Ex1.esc (c := 60) (r := lit "&lt;") h1 (by fail "wr") (by rfl) (by rfl) (by rfl) (Nat.le_trans b1 (by decide)) (by decide) (by decide) fun σ2 k2 h2 => ?_)
 have b2 : (rep 60 (lit "&lt;") (rep 38 (lit "&amp;") l)).length ≤ 180 := rep_le (by decide) b1 (by decide)
 refine Ex.cons (Ex1.esc (c := 62) (r := lit "&gt;") h2 (by fail "wr") (by rfl) (by rfl) (by rfl) (Nat.le_trans b2 (by decide)) (by decide) (by decide) fun σ3 k3 h3 => ?_)
 have b3 : (rep 62 (lit "&gt;") (rep 60 (lit "&lt;") (rep 38 (lit "&amp;") l))).length ≤ 1080 := rep_le (by decide) b2 (by decide)
 refine Ex.cons (Ex1.esc (c := 34) (r := lit "&quot;") h3 (by fail "wr") (by rfl) (by rfl) (by rfl) (Nat.le_trans b3 (by decide)) (by decide) (by decide) fun σ4 k4 h4 => ?_)
 have b4 : (rep 34 (lit "&quot;") (rep 62 (lit "&gt;") (rep 60 (lit "&lt;") (rep 38 (lit "&amp;") l)))).length ≤ 6480 := rep_le (by decide) b3 (by decide)
 refine Ex.cons (Ex1.esc (c := 13) (r := lit "&#13;") h4 (by fail "wr") (by rfl) (by rfl) (by rfl) (Nat.le_trans b4 (by decide)) (by decide) (by decide) fun σ5 k5 h5 => ?_)
 have b5 : (rep 13 (lit "&#13;") (rep 34 (lit "&quot;") (rep 62 (lit "&gt;") (rep 60 (lit "&lt;") (rep 38 (lit "&amp;") l))))).length ≤ 38880 := rep_le (by decide) b4 (by decide)
 refine Ex.cons (Ex1.esc (c := 10) (r := lit "&#10;") h5 (by fail "wr") (by rfl) (by rfl) (by rfl) (Nat.le_trans b5 (by decide)) (by decide) (by decide) fun σ6 k6 h6 => ?_)
 have b6 : (rep 10 (lit "&#10;") (rep 13 (lit "&#13;") (rep 34 (lit "&quot;") (rep 62 (lit "&gt;") (rep 60 (lit "&lt;") (rep 38 (lit "&amp;") l)))))).length ≤ 233280 := rep_le (by decide) b5 (by decide)
 refine Ex.cons (Ex1.esc (c := 9) (r := lit "&#09;") h6 (by fail "wr") (by rfl) (by rfl) (by rfl) (Nat.le_trans b6 (by decide)) (by decide) (by decide) fun σ7 k7 h7 => ?_)
 have b7 : (rep 9 (lit "&#09;") (rep 10 (lit "&#10;") (rep 13 (lit "&#13;") (rep 34 (lit "&quot;") (rep 62 (lit "&gt;") (rep 60 (lit "&lt;") (rep 38 (lit "&amp;") l))))))).length ≤ 1399680 := rep_le (by decide) b6 (by decide)
 fail "e"
 exact h
theorem binds21 : Binds (top 21) ["text"] := fun name qual kV doc pm an cdv ct vals hv => by
 refine o1_1 (list1 hv) fun _ zb => ?_; obtain rfl := zb; rfl
def escH (l : List Nat) : List Nat := rep 34 (lit "&quot;") (rep 62 (lit "&gt;") (rep 38 (lit "&amp;") l))
theorem escH_ok {f : Addr} (hf : FnAt W "_escape_attrib_html" 21 f) {l : List Nat} (hl : l.length ≤ 5) {Ψ : PV → Prop} (h : Ψ (.str (S (escH l)))) : CallP W (n + 1) (.val (.ref f)) [.str (S l)] Ψ := by
 refine CallP.ob hf.toFnOb ["text"] binds21 fun qual L cdv => ?_
 refine Ex.cons (Ex1.tr ?_)
 have b0 := hl
 have h0 : List.lookup (Str.ofString "text") ([Str.ofString "text"].zip (List.map SV.fz [PV.str (S l)])) = some (.fz (.str (S l))) := rfl
 refine Ex.cons (Ex1.esc (c := 38) (r := lit "&amp;") h0 (by fail "wr") (by rfl) (by rfl) (by rfl) (Nat.le_trans b0 (by decide)) (by decide) (by decide) fun σ1 k1 h1 => ?_)
 have b1 : (rep 38 (lit "&amp;") l).length ≤ 30 := rep_le (by decide) b0 (by decide)
 refine Ex.cons (Ex1.esc (c := 62) (r := lit "&gt;") h1 (by fail "wr") (by rfl) (by rfl) (by rfl) (Nat.le_trans b1 (by decide)) (by decide) (by decide) fun σ2 k2 h2 => ?_)
 have b2 : (rep 62 (lit "&gt;") (rep 38 (lit "&amp;") l)).length ≤ 180 := rep_le (by decide) b1 (by decide)
 refine Ex.cons (Ex1.esc (c := 34) (r := lit "&quot;") h2 (by fail "wr") (by rfl) (by rfl) (by rfl) (Nat.le_trans b2 (by decide)) (by decide) (by decide) fun σ3 k3 h3 => ?_)
 have b3 : (rep 34 (lit "&quot;") (rep 62 (lit "&gt;") (rep 38 (lit "&amp;") l))).length ≤ 1080 := rep_le (by decide) b2 (by decide)
 fail "e"
 exact h
theorem binds22 : Binds (top 22) ["text"] := fun name qual kV doc pm an cdv ct vals hv => by
 refine o1_1 (list1 hv) fun _ zb => ?_; obtain rfl := zb; rfl
def escN (l : List Nat) : List Nat := rep 13 (lit "&#xD;") (rep 10 (lit "&#xA;") (rep 9 (lit "&#x9;") (rep 34 (lit "&quot;") (rep 60 (lit "&lt;") (rep 38 (lit "&amp;") l)))))
theorem escN_ok {f : Addr} (hf : FnAt W "_escape_attrib_c14n" 22 f) {l : List Nat} (hl : l.length ≤ 5) {Ψ : PV → Prop} (h : Ψ (.str (S (escN l)))) : CallP W (n + 1) (.val (.ref f)) [.str (S l)] Ψ := by
 refine CallP.ob hf.toFnOb ["text"] binds22 fun qual L cdv => ?_
 refine Ex.cons (Ex1.tr ?_)
 have b0 := hl
 have h0 : List.lookup (Str.ofString "text") ([Str.ofString "text"].zip (List.map SV.fz [PV.str (S l)])) = some (.fz (.str (S l))) := rfl
 refine Ex.cons (Ex1.esc (c := 38) (r := lit "&amp;") h0 (by fail "wr") (by rfl) (by rfl) (by rfl) (Nat.le_trans b0 (by decide)) (by decide) (by decide) fun σ1 k1 h1 => ?_)
 have b1 : (rep 38 (lit "&amp;") l).length ≤ 30 := rep_le (by decide) b0 (by decide)
 refine Ex.cons (Ex1.esc (c := 60) (r := lit "&lt;") h1 (by fail "wr") (by rfl) (by rfl) (by rfl) (Nat.le_trans b1 (by decide)) (by decide) (by decide) fun σ2 k2 h2 => ?_)
 have b2 : (rep 60 (lit "&lt;") (rep 38 (lit "&amp;") l)).length ≤ 180 := rep_le (by decide) b1 (by decide)
 refine Ex.cons (Ex1.esc (c := 34) (r := lit "&quot;") h2 (by fail "wr") (by rfl) (by rfl) (by rfl) (Nat.le_trans b2 (by decide)) (by decide) (by decide) fun σ3 k3 h3 => ?_)
 have b3 : (rep 34 (lit "&quot;") (rep 60 (lit "&lt;") (rep 38 (lit "&amp;") l))).length ≤ 1080 := rep_le (by decide) b2 (by decide)
 refine Ex.cons (Ex1.esc (c := 9) (r := lit "&#x9;") h3 (by fail "wr") (by rfl) (by rfl) (by rfl) (Nat.le_trans b3 (by decide)) (by decide) (by decide) fun σ4 k4 h4 => ?_)
 have b4 : (rep 9 (lit "&#x9;") (rep 34 (lit "&quot;") (rep 60 (lit "&lt;") (rep 38 (lit "&amp;") l)))).length ≤ 6480 := rep_le (by decide) b3 (by decide)
 refine Ex.cons (Ex1.esc (c := 10) (r := lit "&#xA;") h4 (by fail "wr") (by rfl) (by rfl) (by rfl) (Nat.le_trans b4 (by decide)) (by decide) (by decide) fun σ5 k5 h5 => ?_)
 have b5 : (rep 10 (lit "&#xA;") (rep 9 (lit "&#x9;") (rep 34 (lit "&quot;") (rep 60 (lit "&lt;") (rep 38 (lit "&amp;") l))))).length ≤ 38880 := rep_le (by decide) b4 (by decide)
 refine Ex.cons (Ex1.esc (c := 13) (r := lit "&#xD;") h5 (by fail "wr") (by rfl) (by rfl) (by rfl) (Nat.le_trans b5 (by decide)) (by decide) (by decide) fun σ6 k6 h6 => ?_)
 have b6 : (rep 13 (lit "&#xD;") (rep 10 (lit "&#xA;") (rep 9 (lit "&#x9;") (rep 34 (lit "&quot;") (rep 60 (lit "&lt;") (rep 38 (lit "&amp;") l)))))).length ≤ 233280 := rep_le (by decide) b5 (by decide)
 fail "e"
 exact h
end
section
variable {W : Wd} {n : Nat} {env : Env} {wr : List Str} {σ : Sto}
def dblq (l : List Nat) : List Nat := rep 34 [34, 34] l
def reply (name tail : List Nat) : List Nat := lit "257 \"" ++ dblq name ++ [34] ++ tail
theorem reply_at {name tail : List Nat} {k c : Nat} (h : name[k]? = some c) : (reply name tail)[5 + (dblq (name.take k)).length]? = some c ∧ (c = 34 → (reply name tail)[5 + (dblq (name.take k)).length + 1]? = some 34) ∧
  5 + (dblq (name.take (k + 1))).length = (if c = 34 then 5 + (dblq (name.take k)).length + 2 else 5 + (dblq (name.take k)).length + 1) ∧ 5 + (dblq (name.take (k + 1))).length < (reply name tail).length := by
 have hlt := (List.getElem?_eq_some_iff.mp h).1
 have e : name = name.take k ++ c :: name.drop (k + 1) := by
  have := List.drop_eq_getElem_cons hlt; rw [(List.getElem?_eq_some_iff.mp h).2] at this; rw [← this, List.take_append_drop]
 have e1 : name.take (k + 1) = name.take k ++ [c] := by rw [List.take_add_one, h]; rfl
 have hd : dblq name = dblq (name.take k) ++ ((if c = 34 then [34, 34] else [c]) ++ dblq (name.drop (k + 1))) := by
  conv => lhs; rw [e]
  unfold dblq; rw [rep_app]; simp [rep]
 have hd1 : dblq (name.take (k + 1)) = dblq (name.take k) ++ (if c = 34 then [34, 34] else [c]) := by rw [e1]; unfold dblq; rw [rep_app]; simp [rep]
 have hl : (lit "257 \"").length = 5 := by decide
 have hr : reply name tail = (lit "257 \"" ++ dblq (name.take k)) ++ ((if c = 34 then [34, 34] else [c]) ++ (dblq (name.drop (k + 1)) ++ ([34] ++ tail))) := by
  unfold reply; rw [hd]; simp
 have hp : (lit "257 \"" ++ dblq (name.take k)).length = 5 + (dblq (name.take k)).length := by rw [List.length_append, hl]
 refine ⟨?_, fun hc => ?_, ?_, ?_⟩
 ·rw [hr, List.getElem?_append_right (by with_reducible exact Nat.le_of_eq (by assumption)), hp, Nat.sub_self]
  by_cases hc : c = 34
  ·subst hc; rfl
  ·rw [if_neg hc]; rfl
 ·rw [hr, List.getElem?_append_right (by rw [hp]; exact Nat.le_succ _), hp, if_pos hc, Nat.add_sub_cancel_left]; rfl
 ·rw [hd1, List.length_append]; split <;> simp <;> rfl
 ·rw [hr, List.length_append, hp, hd1]; simp only [List.length_append, List.length_singleton]; omega
theorem reply_end {name tail : List Nat} : (reply name tail)[5 + (dblq name).length]? = some 34 ∧ (reply name tail)[5 + (dblq name).length + 1]? = tail[0]? ∧ (reply name tail).length = 5 + (dblq name).length + 1 + tail.length := by
 have hl : (lit "257 \"").length = 5 := by decide
 have hp : (lit "257 \"" ++ dblq name).length = 5 + (dblq name).length := by rw [List.length_append, hl]
 have hr : reply name tail = (lit "257 \"" ++ dblq name) ++ (34 :: tail) := by unfold reply; simp
 refine ⟨?_, ?_, ?_⟩
 ·rw [hr, List.getElem?_append_right (by with_reducible exact Nat.le_of_eq (by assumption)), hp, Nat.sub_self]; rfl
 ·rw [hr, List.getElem?_append_right (by omega), hp, Nat.add_sub_cancel_left]; rfl
 ·rw [hr, List.length_append, hp]; simp; simp only [Nat.add_comm, Nat.add_left_comm, Nat.add_assoc]
theorem binds9 : Binds (top 9) ["resp"] := fun name qual kV doc pm an cdv ct vals hv => by
 refine o1_1 (list1 hv) fun _ zb => ?_; obtain rfl := zb; rfl
theorem parse_ok {f : Addr} (hf : FnAt W "parse257" 9 f) (hle : W.Top "len" (.builtin "len")) {name tail : List Nat} (hn : name.length ≤ 5) (ht : tail[0]? ≠ some 34) (htl : tail.length ≤ 5) {Ψ : PV → Prop} (h : Ψ (.str (S name))) :
  CallP W (n + 1) (.val (.ref f)) [.str (S (reply name tail))] Ψ := by
 refine CallP.ob hf.toFnOb ["resp"] binds9 fun qual L cdv => ?_
 have hq : (dblq name).length ≤ 30 := rep_le (by decide) hn (by decide)
 refine o0_3 (reply_end (name := name) (tail := tail)) fun r1 r2 r3 => ?_
 have hR : (reply name tail).length ≤ 65536 := by rw [r3]; exact Nat.le_trans (Nat.add_le_add (Nat.add_le_add (Nat.add_le_add (Nat.le_refl 5) hq) (Nat.le_refl 1)) htl) (by decide)
 refine Ex.cons ?_
 fail "e"
 refine SubS.of (SubP.cutS (lo := none) (hi := some 3) hR ?_)
 fail "e"
 refine iteF (show (cut (reply name tail) none (some 3) != lit "257") = false from rfl) ?_
 fail "e"
 refine SubS.of (SubP.cutS (lo := some 3) (hi := some 5) hR ?_)
 fail "e"
 refine iteF (show (cut (reply name tail) (some 3) (some 5) != lit " \"") = false from rfl) ?_
 fail "e"
 refine CallS.of (CallP.lenS (by rw [S_len]; with_reducible exact Om.castLt' (by assumption) (by decide)) ?_)
 rw [S_len]
 fail "e"
 refine Ex1.whil (fun m σ => List.lookup (Str.ofString "resp") σ = some (SV.fz (.str (S (reply name tail)))) ∧ List.lookup (Str.ofString "n") σ = some (SV.fz (.int ((reply name tail).length : Int))) ∧
   ∃ k, k ≤ name.length ∧ m + k = name.length ∧ List.lookup (Str.ofString "i") σ = some (SV.fz (.int ((5 + (dblq (name.take k)).length : Nat) : Int))) ∧ List.lookup (Str.ofString "dirname") σ = some (SV.fz (.str (S (name.take k))))) (fun m σ hI => ?_) name.length ?_
 ·refine o0_3 hI fun a1 a2 zz => ?_; clear hI; refine o1_4 zz fun k hk hm a3 a4 => ?_; clear zz
  fail "e"
  by_cases hlt : k < name.length
  ·refine o0_4 (reply_at (tail := tail) (List.getElem?_eq_getElem hlt)) fun b1 b2 b3 b4 => ?_
   have hi : 5 + (dblq (name.take k)).length < (reply name tail).length := (List.getElem?_eq_some_iff.mp b1).1
   refine iteP (by simpa using hi) ?_
   fail "e"
   refine SubS.of (SubP.strS b1 (by with_reducible exact Nat.lt_of_lt_of_le (by assumption) (by assumption)) ?_)
   fail "e"
   have htk : name.take (k + 1) = name.take k ++ [name[k]] := by rw [List.take_add_one, List.getElem?_eq_getElem hlt]; rfl
   have hadd : (name.take k).length + [name[k]].length ≤ 65536 := by rw [List.length_take, List.length_singleton]; exact Nat.le_trans (Nat.succ_le_succ (Nat.le_trans (Nat.min_le_right _ _) hn)) (by decide)
   by_cases hq : name[k] = 34
   ·refine iteP (by rw [hq]; rfl) ?_
    fail "e"
    have b2 := b2 hq
    have hi2 := (List.getElem?_eq_some_iff.mp b2).1
    refine iteP (by first | (rw [show decide ((reply name tail).length ≤ 5 + (dblq (name.take k)).length + 1) = false from decide_eq_false (by exact Nat.not_le_of_gt (by assumption))]; done) | (rw [show decide ((reply name tail).length ≤ 5 + (dblq (name.take k)).length + 1) = false from decide_eq_false (by exact Nat.not_le_of_gt (by assumption))]; rfl)) ?_
    fail "e"
    refine SubS.of (SubP.strS b2 (by with_reducible exact Nat.lt_of_lt_of_le (by assumption) (by assumption)) ?_)
    fail "e"
    refine iteP (by first | (rw [show ([34] != lit "\"") = false from rfl]; done) | (rw [show ([34] != lit "\"") = false from rfl]; rfl)) ?_
    fail "e"
    refine iteF (show (BoolOp.Or == BoolOp.And) = false from rfl) ?_
    fail "e"
    refine BinP.addSL hadd ?_
    fail "e"
    refine (i1_4 (m - 1) (Om.dn1 hm hlt) (by fail "look") (by fail "look") ⟨k + 1, hlt, Om.dn2 hm hlt, ?_, by rw [htk]; fail "look"⟩)
    rw [b3, if_pos hq]; fail "look"
   ·have hne : ([name[k]] == lit "\"") = false := beq_eq_false_iff_ne.mpr fun q => hq (by have : [name[k]] = [34] := q; simpa using this)
    refine iteF (hne) ?_
    fail "e"
    refine BinP.addSL hadd ?_
    fail "e"
    refine (i1_4 (m - 1) (Om.dn1 hm hlt) (by fail "look") (by fail "look") ⟨k + 1, hlt, Om.dn2 hm hlt, ?_, by rw [htk]; fail "look"⟩)
    rw [b3, if_neg hq]; fail "look"
  ·have hk' : k = name.length := by exact Nat.le_antisymm (by assumption) (Nat.le_of_not_lt (by assumption))
   subst hk'
   rw [List.take_length] at a3 a4
   rw [List.take_length]
   have hi : 5 + (dblq name).length < (reply name tail).length := (List.getElem?_eq_some_iff.mp r1).1
   refine iteP (by simpa using hi) ?_
   fail "e"
   refine SubS.of (SubP.strS r1 (by with_reducible exact Nat.lt_of_lt_of_le (by assumption) (by assumption)) ?_)
   fail "e"
   refine iteP (by rfl) ?_
   fail "e"
   by_cases ht0 : tail.length = 0
   ·have ht1 : decide ((reply name tail).length ≤ 5 + (dblq name).length + 1) = true := decide_eq_true (by rw [r3, ht0]; exact Nat.le_refl _)
    refine iteF (by rw [ht1]; rfl) ?_
    fail "e"
    refine iteT ht1 ?_
    fail "e"
    exact h
   ·refine iteP (by first | (rw [show decide ((reply name tail).length ≤ 5 + (dblq name).length + 1) = false from decide_eq_false (by rw [r3]; exact Nat.not_le_of_lt (Nat.lt_add_of_pos_right (Nat.pos_of_ne_zero ht0)))]; done) | (rw [show decide ((reply name tail).length ≤ 5 + (dblq name).length + 1) = false from decide_eq_false (by rw [r3]; exact Nat.not_le_of_lt (Nat.lt_add_of_pos_right (Nat.pos_of_ne_zero ht0)))]; rfl)) ?_
    fail "e"
    have h0 : tail[0]? = some tail[0] := List.getElem?_eq_getElem (by exact Nat.pos_of_ne_zero (by assumption))
    refine SubS.of (SubP.strS (r2.trans h0) (by omega) ?_)
    fail "e"
    have hne : ([tail[0]] != lit "\"") = true := by
     rw [bne_iff_ne]; intro q
     have : [tail[0]] = [34] := q
     exact ht (by rw [h0]; simpa using this)
    refine iteF (by rw [hne]; rfl) ?_
    fail "e"
    refine iteT hne ?_
    fail "e"
    exact h
 ·exact ⟨by fail "look", by fail "look", 0, Nat.zero_le _, rfl, by fail "look", by fail "look"⟩
end
section
variable {W : Wd} {n : Nat} {env : Env} {wr : List Str} {σ : Sto}
theorem binds3 : Binds (top 3) ["func_name"] := fun name qual kV doc pm an cdv ct vals hv => by
 refine o1_1 (list1 hv) fun _ zb => ?_; obtain rfl := zb; rfl
def stdOut (l : List Nat) (m : Int) : List Nat := l ++ [58] ++ (Str.ofString (toString m)).cps.toList ++ [40, 102, 41]
theorem fmtOut_S (l : List Nat) (m : Int) : fmtOut (S l) (S [102]) m = S (stdOut l m) := by
 refine Str.ext' (Array.toList_inj.mp ?_)
 unfold fmtOut stdOut
 simp [Str.cps_append, S]
theorem std_ok {f : Addr} (hf : FnAt W "func_std_string" 3 f) {l : List Nat} {m : Int} (hl : l.length ≤ 5) (h0 : -20 ≤ m) (h1 : m ≤ 19) (ht : l ≠ [126]) {Ψ : PV → Prop} (h : Ψ (.str (S (stdOut l m)))) :
  CallP W (n + 1) (.val (.ref f)) [.tuple [.str (S l), .int m, .str (S [102])]] Ψ := by
 refine CallP.ob hf.toFnOb ["func_name"] binds3 fun qual L cdv => ?_
 refine Ex.cons ?_
 fail "e"
 refine SubS.of (SubP.tup2 ?_)
 fail "e"
 refine CmpP.eqPair ?_
 fail "e"
 rw [S_beq, show (l == lit "~") = false from beq_eq_false_iff_ne.mpr ht, Bool.false_and, if_neg (by decide)]
 fail "e"
 refine BinP.fmt rfl h0 h1 (by rw [S_len]; exact hl) (by decide) ?_
 rw [fmtOut_S]
 exact h
end
section
section
variable {κ α β : Type} [DecidableEq κ]
def kget (es : List (κ × α)) (k : κ) : Option α := (es.find? fun e => e.1 = k).map (·.2)
def kput (es : List (κ × α)) (k : κ) (p : α) : List (κ × α) := if es.any (fun e => e.1 = k) then es.map (fun e => if e.1 = k then (e.1, p) else e) else es ++ [(k, p)]
theorem kput_new {es : List (κ × α)} {k : κ} {p : α} (h : k ∉ es.map (·.1)) : kput es k p = es ++ [(k, p)] := by
 unfold kput
 rw [if_neg]
 intro q
 refine o1_2 (List.any_eq_true.mp q) fun e he hk => ?_
 exact h (List.mem_map.mpr (i1_2 e he (by simpa using hk)))
theorem kput_old {es : List (κ × α)} {k : κ} {p : α} (h : k ∈ es.map (·.1)) : kput es k p = es.map (fun e => if e.1 = k then (e.1, p) else e) := by
 unfold kput
 refine o1_2 (List.mem_map.mp h) fun e he hk => ?_
 rw [if_pos (List.any_eq_true.mpr (i1_2 e he (by simpa using hk)))]
theorem kput_keys {es : List (κ × α)} {k : κ} {p : α} : (kput es k p).map (·.1) = if k ∈ es.map (·.1) then es.map (·.1) else es.map (·.1) ++ [k] := by
 by_cases h : k ∈ es.map (·.1)
 ·rw [kput_old h, if_pos h, List.map_map]
  refine List.map_congr_left fun e _ => ?_
  simp only [Function.comp]; split <;> rfl
 ·rw [kput_new h, if_neg h]; simp
theorem kput_nodup {es : List (κ × α)} {k : κ} {p : α} (h : (es.map (·.1)).Nodup) : ((kput es k p).map (·.1)).Nodup := by
 rw [kput_keys]
 split
 ·exact h
 ·rename_i hk; rw [List.nodup_append]; exact ⟨h, by simp, fun a ha b hb => by rw [List.mem_singleton.mp hb]; exact fun q => hk (q ▸ ha)⟩
theorem kget_cons {e : κ × α} {es : List (κ × α)} {k : κ} : kget (e :: es) k = if e.1 = k then some e.2 else kget es k := by
 unfold kget
 rw [List.find?_cons]
 by_cases h : e.1 = k
 ·simp [h]
 ·simp [h]
theorem kget_none {es : List (κ × α)} {k : κ} : kget es k = none ↔ k ∉ es.map (·.1) := by
 induction es with
 | nil => simp [kget]
 | cons e es ih =>
  rw [kget_cons, List.map_cons, List.mem_cons]
  by_cases h : e.1 = k
  ·rw [if_pos h]; simp [h]
  ·rw [if_neg h, ih]; simp [Ne.symm h]
theorem kget_upd {es : List (κ × α)} {k j : κ} {p : α} : kget (es.map fun e => if e.1 = k then (e.1, p) else e) j = if j = k ∧ k ∈ es.map (·.1) then some p else kget es j := by
 induction es with
 | nil => simp [kget]
 | cons e es ih =>
  rw [List.map_cons, kget_cons, kget_cons, ih]
  by_cases hk : e.1 = k
  ·by_cases hj : j = k
   ·simp [hk, hj]
   ·have h1 : ¬ k = j := fun q => hj q.symm
    simp [hk, hj, h1]
  ·by_cases hj : e.1 = j
   ·have : ¬ j = k := fun q => hk (hj.trans q)
    simp [hk, hj, this]
   ·have h1 : ¬ k = e.1 := fun q => hk q.symm
    have h2 : (k ∈ (e :: es).map (·.1)) ↔ k ∈ es.map (·.1) := by rw [List.map_cons, List.mem_cons]; exact ⟨fun q => q.resolve_left h1, .inr⟩
    simp only [hk, hj, if_false, h2]
theorem kget_put {es : List (κ × α)} {k j : κ} {p : α} : kget (kput es k p) j = if j = k then some p else kget es j := by
 by_cases h : k ∈ es.map (·.1)
 ·rw [kput_old h, kget_upd]
  by_cases hj : j = k
  ·rw [if_pos ⟨hj, h⟩, if_pos hj]
  ·rw [if_neg (fun q => hj q.1), if_neg hj]
 ·rw [kput_new h]
  induction es with
  | nil =>
   show kget [(k, p)] j = _
   rw [kget_cons]
   by_cases hj : j = k
   ·simp [hj]
   ·rw [if_neg (Ne.symm hj), if_neg hj]
  | cons e es ih =>
   have hk : ¬ e.1 = k := fun q => h (by simp [q])
   have hm : k ∉ es.map (·.1) := fun q => h (by simp only [List.map_cons, List.mem_cons]; exact .inr q)
   rw [List.cons_append, kget_cons, kget_cons, ih hm]
   by_cases hj : e.1 = j
   ·have : ¬ j = k := fun q => hk (hj.trans q)
    simp [hj, this]
   ·rw [if_neg hj, if_neg hj]
theorem kget_map {f : κ → α} {l : List κ} {k : κ} : kget (l.map fun p => (p, f p)) k = if k ∈ l then some (f k) else none := by
 induction l with
 | nil => rfl
 | cons p l ih =>
  rw [List.map_cons, kget_cons, ih]
  by_cases h : p = k
  ·subst h; simp
  ·rw [if_neg h]; simp [Ne.symm h]
theorem kput_map {f : κ → α} {l : List κ} {k : κ} {v : α} (h : k ∈ l) : kput (l.map fun p => (p, f p)) k v = l.map fun p => (p, if p = k then v else f p) := by
 rw [kput_old (by rw [List.map_map]; simpa using h), List.map_map]
 refine List.map_congr_left fun p _ => ?_
 simp only [Function.comp]
 split <;> rfl
end
structure Ent where
 c : Nat
 s : Nat
 t : Nat
 q : Nat
 ps : List (List Nat × (Nat × Nat))
def Ent.zero : Ent := ⟨0, 0, 0, 0, []⟩
def itemAt (l : List Nat) (d : Nat) : List Nat := (l.drop d).take 1
def padd (ps : List (List Nat × (Nat × Nat))) (k : List Nat) (a b : Nat) : List (List Nat × (Nat × Nat)) := kput ps k (match kget ps k with
 | some (c, d) => (a + c, b + d)
 | none => (a, b))
def Ent.add (e : Ent) (l : List Nat) (d tick : Nat) : Ent := ⟨1 + e.c, (l.length - d) + e.s, (if itemAt l d = [] then tick else 0) + e.t, tick + e.q, padd e.ps (itemAt l d) 1 tick⟩
abbrev Prof := List (List Nat × Ent)
def step1 (l : List Nat) (tick : Nat) (m : Prof) (d : Nat) : Prof := kput m (l.take d) (((kget m (l.take d)).getD .zero).add l d tick)
def stepN (m : Prof) (l : List Nat) (tick : Nat) : Prof := (List.range (l.length + 1)).foldl (step1 l tick) m
def prof (ns : List (List Nat)) (tk : Nat → Nat) (k : Nat) : Prof := (List.range k).foldl (fun m i => stepN m (ns.getD i []) (tk i)) []
def pre (p l : List Nat) : Bool := l.take p.length == p
def entE (ns : List (List Nat)) (tk : Nat → Nat) (p : List Nat) (k : Nat) : Ent := ((List.range k).filter fun j => pre p (ns.getD j [])).foldl (fun e j => e.add (ns.getD j []) p.length (tk j)) .zero
theorem entE_succ (ns : List (List Nat)) (tk : Nat → Nat) (p : List Nat) (k : Nat) : entE ns tk p (k + 1) = if pre p (ns.getD k []) then (entE ns tk p k).add (ns.getD k []) p.length (tk k) else entE ns tk p k := by
 unfold entE
 rw [List.range_succ, List.filter_append, List.foldl_append]
 cases h : pre p (ns.getD k []) with
 | true => rw [if_pos rfl, List.filter_cons, if_pos (by simpa using h)]; rfl
 | false => rw [if_neg (by decide), List.filter_cons, if_neg (by simpa using h)]; rfl
section
variable {sig : List Nat} {ns : List (List Nat)} {tk : Nat → Nat}
theorem prefix_in (hN : NamesOk sig ns) : ∀ (n k d : Nat) (l : List Nat), l.length ≤ n → ns[k]? = some l → d < l.length → l.take d ∈ ns.take k
 | 0, k, d, l, hn, hk, hd => by omega
 | n + 1, k, d, l, hn, hk, hd => by
  have hk0 : k ≠ 0 := fun q => by
   subst q; rw [hN.first] at hk; cases hk; exact absurd hd (by simp)
  refine o0_2 (hN.up k l hk hk0) fun hne hm => ?_
  by_cases e : d = l.length - 1
  ·rw [e, ← List.dropLast_eq_take]; exact hm
  ·refine o1_1 (List.getElem?_of_mem hm) fun j hj => ?_
   have hjk : j < k := by
    have := (List.getElem?_eq_some_iff.mp hj).1
    rw [List.length_take] at this; exact Om.ltMin (by assumption)
   have hj' : ns[j]? = some l.dropLast := by rw [List.getElem?_take, if_pos hjk] at hj; exact hj
   have hl : l.dropLast.length = l.length - 1 := List.length_dropLast
   have := prefix_in hN n j d l.dropLast (by omega) hj' (by omega)
   have e2 : l.dropLast.take d = l.take d := by rw [List.dropLast_eq_take, List.take_take, Nat.min_eq_left (by omega)]
   rw [e2] at this
   exact List.mem_of_mem_take (i := j) (by rwa [List.take_take, Nat.min_eq_left (by with_reducible exact Nat.le_of_lt (by assumption))])
theorem prof_eq (hN : NamesOk sig ns) : ∀ k, k ≤ ns.length → prof ns tk k = (ns.take k).map fun p => (p, entE ns tk p k)
 | 0, _ => rfl
 | k + 1, hk => by
  have hlt : k < ns.length := hk
  have hl : ns[k]? = some (ns.getD k []) := by rw [List.getD_eq_getElem?_getD, List.getElem?_eq_getElem hlt]; rfl
  have e : prof ns tk (k + 1) = stepN (prof ns tk k) (ns.getD k []) (tk k) := by unfold prof; rw [List.range_succ, List.foldl_append]; rfl
  rw [e, prof_eq hN k (by with_reducible exact Nat.le_of_lt (by assumption))]
  generalize hL : ns.getD k [] = l at hl
  have hmem : ∀ d, d < l.length → l.take d ∈ ns.take k := fun d hd => prefix_in hN l.length k d l (Nat.le_refl _) hl hd
  have hnd := hN.nodup
  have hself : l ∉ ns.take k := fun q => by
   refine o1_1 (List.mem_take_iff_getElem.mp q) fun j zz => ?_; refine o1_1 zz fun hj q2 => ?_; clear zz
   have h2 := (List.getElem?_eq_some_iff.mp hl).2
   have := (List.getElem_inj hnd).mp (q2.trans h2.symm)
   exact Om.minNe (by assumption) (by assumption)
  have part : ∀ d, d ≤ l.length → (List.range d).foldl (step1 l (tk k)) ((ns.take k).map fun p => (p, entE ns tk p k)) =
    (ns.take k).map fun p => (p, if pre p l = true ∧ p.length < d then (entE ns tk p k).add l p.length (tk k) else entE ns tk p k) := by
   intro d
   induction d with
   | zero => intro _; exact List.map_congr_left fun p _ => by simp
   | succ d ih =>
    intro hd
    rw [List.range_succ, List.foldl_append, ih (by exact Nat.le_of_succ_le (by assumption))]
    show step1 l (tk k) _ d = _
    unfold step1
    have hdl : (l.take d).length = d := by rw [List.length_take]; exact Nat.min_eq_left (Nat.le_of_lt (by assumption))
    have hpd : ∀ p, (pre p l = true ∧ p.length = d) ↔ p = l.take d := fun p => by
     constructor
     ·rintro ⟨h1, h2⟩; unfold pre at h1; rw [h2] at h1; exact (eq_of_beq h1).symm
     ·rintro rfl; exact ⟨by unfold pre; rw [hdl]; simp, hdl⟩
    rw [kget_map, if_pos (hmem d (by assumption)), kput_map (hmem d (by assumption))]
    refine List.map_congr_left fun p _ => ?_
    congr 1
    by_cases hp : p = l.take d
    ·have := (hpd p).mpr hp
     rw [if_pos hp, Option.getD_some, if_neg (fun q => by have := q.2; rw [hdl] at this; exact Nat.lt_irrefl _ (by assumption)), if_pos ⟨this.1, by omega⟩, hp, hdl]
    ·rw [if_neg hp]
     have : (pre p l = true ∧ p.length < d + 1) ↔ (pre p l = true ∧ p.length < d) := by
      constructor
      ·rintro ⟨h1, h2⟩
       refine ⟨h1, ?_⟩
       rcases Nat.lt_or_ge p.length d with h3 | h3
       ·exact h3
       ·exact absurd ((hpd p).mp ⟨h1, by exact Nat.eq_of_le_of_lt_succ (by assumption) (by assumption)⟩) hp
      ·rintro ⟨h1, h2⟩; exact ⟨h1, by with_reducible exact Nat.lt_succ_of_lt (by assumption)⟩
     simp only [this]
  unfold stepN
  rw [List.range_succ, List.foldl_append, part l.length (Nat.le_refl _)]
  show step1 l (tk k) _ l.length = _
  unfold step1
  have hk1 : ∀ f : List Nat → Ent, ((ns.take k).map fun p => (p, f p)).map (·.1) = ns.take k := fun f => by rw [List.map_map]; exact List.map_id _
  rw [List.take_length, kget_map, if_neg hself, kput_new (by rw [hk1]; exact hself)]
  have ht : ns.take (k + 1) = ns.take k ++ [l] := by rw [List.take_add_one, hl]; rfl
  rw [ht, List.map_append]
  have hpl : pre l l = true := by unfold pre; rw [List.take_length]; exact beq_self_eq_true _
  congr 1
  ·refine List.map_congr_left fun p hp => ?_
   congr 1
   rw [entE_succ, hL]
   by_cases h : pre p l = true
   ·have hlt : p.length < l.length := by
     have h1 : l.take p.length = p := by simpa [pre] using h
     rcases Nat.lt_or_ge p.length l.length with h3 | h3
     ·exact h3
     ·rw [List.take_of_length_le h3] at h1; exact absurd (h1 ▸ hp) hself
    rw [if_pos ⟨h, hlt⟩, if_pos h]
   ·rw [if_neg (fun q => h q.1), if_neg h]
  ·show [(l, _)] = [(l, _)]
   congr 2
   rw [entE_succ, hL, if_pos hpl]
   have hz : entE ns tk l k = .zero := by
    unfold entE
    have : ((List.range k).filter fun j => pre l (ns.getD j [])) = [] := by
     rw [List.filter_eq_nil_iff]
     intro j hj q
     have hjk : j < k := by simpa using hj
     have hj2 : ns[j]? = some (ns.getD j []) := by rw [List.getD_eq_getElem?_getD, List.getElem?_eq_getElem (by exact Nat.lt_trans (by assumption) (by assumption))]; rfl
     have h1 : (ns.getD j []).take l.length = l := by simpa [pre] using q
     rcases Nat.lt_or_ge l.length (ns.getD j []).length with h3 | h3
     ·have := prefix_in hN _ j l.length _ (Nat.le_refl _) hj2 h3
      rw [h1] at this
      exact hself (List.mem_of_mem_take (i := j) (by rwa [List.take_take, Nat.min_eq_left (by with_reducible exact Nat.le_of_lt (by assumption))]))
     ·rw [List.take_of_length_le h3] at h1
      rw [h1] at hj2
      exact hself (List.mem_of_getElem? (i := j) (by rw [List.getElem?_take, if_pos hjk]; exact hj2))
    rw [this]; rfl
   rw [hz]; rfl
end
end
section
variable {W : Wd} {n : Nat} {env : Env} {wr : List Str} {σ : Sto}
abbrev Spl := List (Nat × List Nat)
def spl (m : Spl) (c : Nat) : List Nat := (m.lookup c).getD [c]
def splPV (m : Spl) : List (Str × PV) := m.map fun x => (S [x.1], .str (S x.2))
theorem dget_spl (m : Spl) (c : Nat) : dget (splPV m) (S [c]) = (m.lookup c).map fun l => .str (S l) := by
 induction m with
 | nil => rfl
 | cons x m ih =>
  obtain ⟨k, l⟩ := x
  by_cases h : c = k
  ·subst h; simp [dget, splPV]
  ·have h1 : S [k] ≠ S [c] := fun q => h (by have := S_inj q; simpa using this.symm)
   have h2 : (c == k) = false := by simpa using h
   have e1 : dget (splPV ((k, l) :: m)) (S [c]) = dget (splPV m) (S [c]) := by simp [dget, splPV, h1]
   rw [e1, ih, List.lookup_cons, h2]
theorem dput_new {α : Type} {es : List (Str × α)} {k : Str} {p : α} (h : k ∉ es.map (·.1)) : dput es k p = es ++ [(k, p)] := by
 unfold dput
 rw [if_neg]
 intro q
 refine o1_2 (List.any_eq_true.mp q) fun e he hk => ?_
 exact h (List.mem_map.mpr (i1_2 e he (by simpa using hk)))
theorem mput_go : ∀ (es fs : List (Str × PV)), ((fs ++ es).map (·.1)).Nodup → es.foldl (fun acc kv => dput acc kv.1 kv.2) fs = fs ++ es
 | [], fs, _ => by simp
 | (k, p) :: es, fs, h => by
  have hk : k ∉ fs.map (·.1) := by
   rw [List.map_append, List.map_cons, List.nodup_append] at h
   intro q; exact h.2.2 k q k (by simp) rfl
  rw [List.foldl_cons, dput_new hk, mput_go es (fs ++ [(k, p)]) (by simpa using h)]
  simp
theorem mput_nd {es : List (Str × PV)} (h : (es.map (·.1)).Nodup) : mput es = es := by
 have := mput_go es [] (by simpa using h)
 simpa [mput] using this
theorem nodup_S {ks : List (List Nat)} (h : ks.Nodup) : (ks.map S).Nodup := by
 rw [List.nodup_iff_pairwise_ne] at *
 exact List.Pairwise.map S (fun a b hab q => hab (S_inj q)) h
theorem mput_eq (es : List (Str × PV)) (ks : List (List Nat)) (hk : es.map (·.1) = ks.map S) (hn : ks.Nodup) : mput es = es := mput_nd (by rw [hk]; exact nodup_S hn)
structure Tab where
 end_ : List Nat
 m : Spl
def tabPV (sig : List Nat) (t : Tab) : List (Str × PV) := (S [], .str (S t.end_)) :: sig.map fun c => (S [c], .str (S (spl t.m c)))
def m3 : Spl := [(38, lit "&amp;"), (60, lit "&lt;"), (62, lit "&gt;")]
def m40 : Spl := [(38, lit "&amp;"), (60, lit "&lt;"), (62, lit "&gt;"), (34, lit "&quot;"), (9, lit "&#09;")]
def m41 : Spl := [(38, lit "&amp;"), (60, lit "&lt;"), (34, lit "&quot;"), (9, lit "&#x9;")]
def m42 : Spl := [(38, lit "&amp;"), (62, lit "&gt;"), (34, lit "&quot;")]
def tailN (k : Nat) : List Nat := [[], lit " made", lit "."].getD (k % 3) []
def m4 (k : Nat) : Spl := [m40, m41, m42].getD (k / 3 % 3) []
def tabs (k : Nat) : List Tab := [⟨[], []⟩, ⟨34 :: tailN k, [(34, [34, 34])]⟩, ⟨[58], []⟩, ⟨lit "</d>", m3⟩, ⟨[34], m4 k⟩, ⟨[13, 10], []⟩]
def tabsPV (sig : List Nat) (k : Nat) : PV := .list ((tabs k).map fun t => .dict (tabPV sig t))
theorem binds27 : Binds (top 27) ["signs", "number"] := fun name qual kV doc pm an cdv ct vals hv => by
 refine o2_1 (list2 hv) fun _ _ zc => ?_; obtain rfl := zc; rfl
theorem get3 {a b c : PV} {k : Nat} : [a, b, c][k % 3]? = some ([a, b, c].getD (k % 3) a) := by
 have := Nat.mod_lt k (show 0 < 3 by decide)
 have h : k % 3 = 0 ∨ k % 3 = 1 ∨ k % 3 = 2 := by exact Om.mod3 _
 rcases h with h | h | h <;> rw [h] <;> rfl
theorem tables_ok {f : Addr} (hf : FnAt W "_law_tables" 27 f) {sig : List Nat} (hs : sig.length = 3) (hn : sig.Nodup) {k : Nat} {Ψ : PV → Prop} (h : Ψ (tabsPV sig k)) :
  CallP W (n + 1) (.val (.ref f)) [.list (sgn sig), .int (k : Int)] Ψ := by
 refine CallP.ob hf.toFnOb ["signs", "number"] binds27 fun qual L cdv => ?_
 have e1 : ∀ a b c d e : PV, mput [(S (lit "&"), a), (S (lit "<"), b), (S (lit ">"), c), (S (lit "\""), d), (S (lit "\t"), e)] = [(S (lit "&"), a), (S (lit "<"), b), (S (lit ">"), c), (S (lit "\""), d), (S (lit "\t"), e)] := fun _ _ _ _ _ => mput_eq _ [[38], [60], [62], [34], [9]] rfl (by decide)
 have e2 : ∀ a b c d : PV, mput [(S (lit "&"), a), (S (lit "<"), b), (S (lit "\""), c), (S (lit "\t"), d)] = [(S (lit "&"), a), (S (lit "<"), b), (S (lit "\""), c), (S (lit "\t"), d)] := fun _ _ _ _ => mput_eq _ [[38], [60], [34], [9]] rfl (by decide)
 have e3 : ∀ a b c : PV, mput [(S (lit "&"), a), (S (lit ">"), b), (S (lit "\""), c)] = [(S (lit "&"), a), (S (lit ">"), b), (S (lit "\""), c)] := fun _ _ _ => mput_eq _ [[38], [62], [34]] rfl (by decide)
 have e4 : ∀ a b c : PV, mput [(S (lit "&"), a), (S (lit "<"), b), (S (lit ">"), c)] = [(S (lit "&"), a), (S (lit "<"), b), (S (lit ">"), c)] := fun _ _ _ => mput_eq _ [[38], [60], [62]] rfl (by decide)
 have e5 : ∀ a : PV, mput [(S (lit "\""), a)] = [(S (lit "\""), a)] := fun _ => mput_eq _ [[34]] rfl (by decide)
 have e6 : ∀ a : PV, mput [(S (lit ""), a)] = [(S (lit ""), a)] := fun _ => mput_eq _ [[]] rfl (by decide)
 refine Ex.cons ?_
 fail "e"
 intro c₁
 rw [e4]
 fail "e"
 rw [e1, e2, e3]
 have hk3 : k / 3 % 3 = 0 ∨ k / 3 % 3 = 1 ∨ k / 3 % 3 = 2 := by have := Nat.mod_lt (k / 3) (show 0 < 3 by decide); exact Om.mod3 _
 have hk0 : k % 3 = 0 ∨ k % 3 = 1 ∨ k % 3 = 2 := by have := Nat.mod_lt k (show 0 < 3 by decide); exact Om.mod3 _
 refine SubS.of (SubP.list (p := .dict (splPV (m4 k))) (Int.natCast_nonneg _) (by with_reducible exact Om.castLt (Nat.mod_lt _ (by decide)) (by decide)) ?_ ?_)
 ·rw [Int.toNat_natCast]
  unfold m4
  rcases hk3 with h | h | h <;> rw [h] <;> rfl
 fail "e"
 refine SubS.of (SubP.list (p := .str (S (tailN k))) (Int.natCast_nonneg _) (by with_reducible exact Om.castLt (Nat.mod_lt _ (by decide)) (by decide)) ?_ ?_)
 ·rw [Int.toNat_natCast]
  unfold tailN
  rcases hk0 with h | h | h <;> rw [h] <;> rfl
 refine BinP.addSL ?_ ?_
 ·have : (tailN k).length ≤ 5 := by unfold tailN; rcases hk0 with h | h | h <;> rw [h] <;> decide
  have : (lit "\"").length = 1 := rfl
  exact Nat.le_trans (Nat.add_le_add_left (by assumption) _) (by decide)
 fail "e"
 intro c₂
 fail "ev"
 with_reducible refine Ex1.forTI ?_
 with_reducible refine EvT'.of ?_
 fail "e"
 refine Ev.own (by fail "look") rfl ?_
 fail "e"
 rw [e5]
 show KItT W n _ (.list (List.map .tuple ((tabs k).map fun t => [.dict (splPV t.m), .str (S t.end_)]))) _
 refine ⟨_, IterTP.list, ?_⟩
 refine forT.inv (fun i σ => List.lookup (Str.ofString "signs") σ = some (SV.fz (.list (sgn sig))) ∧ List.lookup (Str.ofString "tables") σ = some (SV.ol c₂ (((tabs k).take i).map fun t => .dict (tabPV sig t)))) ?_ ?_ ?_
 ·exact ⟨by fail "look", by fail "look"⟩
 ·intro i p σ hp oI Φ kk; refine o0_2 oI fun h1 h2 => ?_; clear oI
  rw [List.getElem?_map] at hp
  cases et : (tabs k)[i]? with
  | none => rw [et] at hp; cases hp
  | some t =>
   rw [et] at hp
   have hp : p = [.dict (splPV t.m), .str (S t.end_)] := by simpa using hp.symm
   subst hp
   have hi : i < 6 := (List.getElem?_eq_some_iff.mp et).1
   refine ⟨rfl, ?_⟩
   fail "e"
   intro c₃
   rw [e6]
   fail "ev"
   with_reducible refine Ex1.forI ?_
   with_reducible refine EvI.of ?_
   fail "e"
   refine ⟨_, IterP.list, ?_⟩
   refine forL.inv (fun j σ' => List.lookup (Str.ofString "spelled") σ' = some (SV.fz (.dict (splPV t.m))) ∧ List.lookup (Str.ofString "signs") σ' = some (SV.fz (.list (sgn sig))) ∧ List.lookup (Str.ofString "tables") σ' = some (SV.ol c₂ (((tabs k).take i).map fun t => .dict (tabPV sig t))) ∧
    List.lookup (Str.ofString "table") σ' = some (SV.od c₃ (tabPV (sig.take j) t))) ?_ ?_ ?_
   ·exact ⟨by fail "look", by fail "look", by fail "look", by fail "look"⟩
   ·intro j p σ' hp oI Φ' kk'; refine o0_4 oI fun g1 g2 g3 g4 => ?_; clear oI
    unfold sgn at hp
    rw [List.getElem?_map] at hp
    cases ec : sig[j]? with
    | none => rw [ec] at hp; cases hp
    | some c =>
     rw [ec] at hp
     have hp : p = .str (S [c]) := (Option.some.inj hp).symm
     subst hp
     have hj : j < sig.length := (List.getElem?_eq_some_iff.mp ec).1
     fail "e"
     refine ⟨_, MethS.of (MethT.dict F.slot_dict_get F.type_dict_get), KeepOk.builtin, ?_⟩
     fail "e"
     refine CallS.of (CallP.get2 ?_)
     rw [dget_spl]
     fail "e"
     refine Ev.borrowD (by fail "look") ?_
     fail "e"
     have hnew : S [c] ∉ (tabPV (sig.take j) t).map (·.1) := by
      intro q
      unfold tabPV at q
      rw [List.map_cons, List.map_map] at q
      rcases List.mem_cons.mp q with q | q
      ·have := S_inj q; cases this
      ·refine o1_2 (List.mem_map.mp q) fun c' hc' e => ?_
       have : c' = c := by have := S_inj e; simpa using this
       subst this
       refine o1_1 (List.mem_take_iff_getElem.mp hc') fun j' zz => ?_; refine o1_1 zz fun hj' e' => ?_; clear zz
       have := (List.getElem?_eq_some_iff.mp ec).2
       have := (List.getElem_inj hn).mp (e'.trans this.symm)
       exact Om.minNe (by assumption) (by assumption)
     refine SetS.dict (x := "table") (by fail "look") (by unfold tabPV; rw [List.length_cons, List.length_map, List.length_take]; exact Nat.le_trans (by omega : min j sig.length + 1 ≤ 64) (by decide)) ?_
     rw [dput_new hnew]
     fail "e"
     refine kk' _ ⟨by fail "look", by fail "look", by fail "look", ?_⟩
     have e : tabPV (sig.take (j + 1)) t = tabPV (sig.take j) t ++ [(S [c], Option.getD (Option.map (fun l => PV.str (S l)) (List.lookup c t.m)) (PV.str (S [c])))] := by
      unfold tabPV
      rw [List.take_add_one, ec, List.map_append]
      have : (Option.getD (Option.map (fun l => PV.str (S l)) (List.lookup c t.m)) (PV.str (S [c]))) = .str (S (spl t.m c)) := by unfold spl; cases List.lookup c t.m <;> rfl
      rw [this]; rfl
     rw [e]; fail "look"
   ·rintro σ' ⟨g1, g2, g3, g4⟩
    have hfull : sig.take (List.length (sgn sig)) = sig := by unfold sgn; rw [List.length_map, List.take_length]
    rw [hfull] at g4
    fail "e"
    refine Ev.borrowL (by fail "look") ⟨_, MethS.list (x := "tables") (by fail "look") F.slot_list_append F.type_list_append, KeepOk.builtin, ?_⟩
    fail "e"
    refine Ev.own (by fail "look") rfl ?_
    fail "e"
    refine CallS.append (x := "tables") (by fail "look") (by rw [List.length_map, List.length_take]; exact Nat.le_trans (by exact Nat.le_trans (Nat.min_le_left _ _) (Nat.le_trans (Nat.le_of_lt (by assumption)) (by decide)) : min i (tabs k).length ≤ 64) (by decide)) ?_
    fail "e"
    refine kk _ ⟨by fail "look", ?_⟩
    rw [List.take_add_one, et, List.map_append]
    fail "look"
 ·rintro σ ⟨h1, h2⟩
  rw [List.length_map, List.take_length] at h2
  fail "e"
  refine Ev.own (by fail "look") rfl ?_
  exact h
end
section
variable {W : Wd} {n : Nat} {env : Env} {wr : List Str} {σ : Sto}
theorem Ev.globS {x y : Str} {t : Tok} {pos : Pos} {Ψ : PV → Sto → Prop} (hv : W.Top x (.str y t)) (h : Ψ (.str y) σ) (hk : env.kindOf x = some .globalImplicit := by with_unfolding_all rfl) (hb : env.builtins = builtinsNs := by with_unfolding_all rfl)
  (hd : (x == ("__debug__" : Str)) = false := by decide) : Ev W n env wr (.Name x pos) σ Ψ := fun A N K G s R S => by
 refine wpAny_mono (Ev.glob (Ψ := fun p σ' => p = .val (.str y t) ∧ σ' = σ) hk hb hv ⟨rfl, rfl⟩ hd A N K G s R S) (fun v s' ⟨G', p, σ', g, S', r, e1, e2⟩ => ?_) fun _ _ x => x
 subst e1; subst e2
 have := r.val_inv; subst this
 exact ⟨G', _, σ', g, S', Rep.st, h⟩
theorem binds14 : Binds (top 14) ["bindata"] := fun name qual kV doc pm an cdv ct vals hv => by
 refine o1_1 (list1 hv) fun _ zb => ?_; obtain rfl := zb; rfl
theorem binds15 : Binds (top 15) ["data"] := fun name qual kV doc pm an cdv ct vals hv => by
 refine o1_1 (list1 hv) fun _ zb => ?_; obtain rfl := zb; rfl
theorem Bs_dots : Re.Bs [46, 46] = [(46 : UInt8), 46].toArray := rfl
theorem fix_ok {f P : Addr} {t : Tok} (hf : FnAt W "_fix_eols" 15 f) (hp : W.Top "_twin_re_2" (.ref P)) (hP : Re.PatOb W.h₀ P Re.code2 false) (hc : W.Top "CRLF" (.str (S [13, 10]) t)) {l : List Nat} (hz : l.length ≤ 65536) (ho : (Re.fx l).length ≤ 65536)
  {Ψ : PV → Prop} (h : Ψ (.str (S (Re.fx l)))) : CallP W (n + 1) (.val (.ref f)) [.str (S l)] Ψ := by
 refine CallP.ob hf.toFnOb ["data"] binds15 fun qual L cdv => ?_
 refine Ex.cons ?_
 fail "e"
 refine ⟨_, MethS.of (MethT.sub hP), KeepOk.builtin, ?_⟩
 refine Evs.cons (Ev.globS hc ?_)
 fail "e"
 exact CallS.of (CallP.sub2 hP hz ho h)
theorem quote_ok {f P : Addr} (hf : FnAt W "_quote_periods" 14 f) (hp : W.Top "_twin_re_1" (.ref P)) (hP : Re.PatOb W.h₀ P Re.code1 true) {l : List Nat} (hz : l.length ≤ 65536) (hl : ∀ x ∈ l, x < 256) (ho : (Re.qp true l).length ≤ 65536)
  {Ψ : PV → Prop} (h : Ψ (.bytes (Re.Bs (Re.qp true l)))) : CallP W (n + 1) (.val (.ref f)) [.bytes (Re.Bs l)] Ψ := by
 refine CallP.ob hf.toFnOb ["bindata"] binds14 fun qual L cdv => ?_
 refine Ex.cons ?_
 fail "e"
 refine ⟨_, MethS.of (MethT.sub hP), KeepOk.builtin, ?_⟩
 fail "e"
 exact CallS.of (CallP.sub1 hP hz hl ho h)
end
section
variable {W : Wd} {n : Nat} {env : Env} {wr : List Str} {σ : Sto}
def escF (k : Nat) (l : List Nat) : List Nat := ([escA, escN, escH].getD (k / 3 % 3) escA) l
def dotted (l : List Nat) : List Nat := if l.head? = some 46 then 46 :: l else l
def endN (k : Nat) : List Nat := [[10], [13], [13, 10]].getD (k / 7 % 3) []
theorem mod3c (k : Nat) : k % 3 = 0 ∨ k % 3 = 1 ∨ k % 3 = 2 := by have := Nat.mod_lt k (show 0 < 3 by decide); exact Om.mod3 _
theorem endN_cases (k : Nat) : endN k = [10] ∨ endN k = [13] ∨ endN k = [13, 10] := by
 unfold endN
 rcases mod3c (k / 7) with h | h | h <;> rw [h]
 ·exact .inl rfl
 ·exact .inr (.inl rfl)
 ·exact .inr (.inr rfl)
def Hom (F : List Nat → List Nat) : Prop := ∀ a b, F (a ++ b) = F a ++ F b
theorem Hom.flat {F : List Nat → List Nat} (h : Hom F) : ∀ l, F l = l.flatMap fun c => F [c]
 | [] => by
  have := congrArg List.length (h [] [])
  rw [List.length_append, List.nil_append] at this
  exact List.eq_nil_of_length_eq_zero (by omega)
 | c :: l => by
  rw [List.flatMap_cons, ← h.flat l, ← h [c] l]; rfl
theorem Hom.comp {F F' : List Nat → List Nat} (h : Hom F) (h' : Hom F') : Hom fun l => F (F' l) := fun a b => by
 show F (F' (a ++ b)) = _; rw [h', h]
theorem Hom.rep (c : Nat) (r : List Nat) : Hom (rep c r) := fun a b => rep_app c r a b
theorem hom_escC : Hom escC := fun a b => by unfold escC; simp only [rep_app]
theorem hom_escA : Hom escA := fun a b => by unfold escA; simp only [rep_app]
theorem hom_escN : Hom escN := fun a b => by unfold escN; simp only [rep_app]
theorem hom_escH : Hom escH := fun a b => by unfold escH; simp only [rep_app]
theorem hom_escF (k : Nat) : Hom (escF k) := by
 unfold escF
 rcases mod3c (k / 3) with h | h | h <;> rw [h]
 ·exact hom_escA
 ·exact hom_escN
 ·exact hom_escH
theorem flatMap_congr' {l : List Nat} {f g : Nat → List Nat} (h : ∀ x ∈ l, f x = g x) : l.flatMap f = l.flatMap g := by
 induction l with
 | nil => rfl
 | cons a l ih => rw [List.flatMap_cons, List.flatMap_cons, h a (by simp), ih fun x hx => h x (List.mem_cons_of_mem _ hx)]
theorem escC_spl {l : List Nat} (h : ∀ x ∈ l, x ∈ C14) : escC l = l.flatMap (spl m3) := by
 rw [hom_escC.flat]
 have key : ∀ c ∈ C14, escC [c] = spl m3 c := by decide
 exact flatMap_congr' fun x hx => key x (h x hx)
theorem escF_spl {k : Nat} {l : List Nat} (h : ∀ x ∈ l, x ∈ C14) : escF k l = l.flatMap (spl (m4 k)) := by
 rw [(hom_escF k).flat]
 refine flatMap_congr' fun x hx => ?_
 have hx := h x hx
 unfold escF m4
 have key0 : ∀ c ∈ C14, escA [c] = spl m40 c := by decide
 have key1 : ∀ c ∈ C14, escN [c] = spl m41 c := by decide
 have key2 : ∀ c ∈ C14, escH [c] = spl m42 c := by decide
 rcases mod3c (k / 3) with e | e | e <;> rw [e]
 ·exact key0 x hx
 ·exact key1 x hx
 ·exact key2 x hx
theorem dblq_spl (l : List Nat) : dblq l = l.flatMap (spl [(34, [34, 34])]) := by
 unfold dblq
 rw [(Hom.rep 34 [34, 34]).flat]
 refine flatMap_congr' fun x hx => ?_
 by_cases e : x = 34
 ·subst e; rfl
 ·have : (x == 34) = false := by simpa using e
  simp [rep, e, spl, List.lookup, this]
theorem flatMap_le {l : List Nat} {f : Nat → List Nat} {k : Nat} (h : ∀ x ∈ l, (f x).length ≤ k) : (l.flatMap f).length ≤ k * l.length := by
 induction l with
 | nil => simp
 | cons a l ih =>
  have h1 := h a (by simp)
  have h2 := ih fun x hx => h x (List.mem_cons_of_mem _ hx)
  rw [List.flatMap_cons, List.length_append, List.length_cons, Nat.mul_succ]; omega
theorem spl_len {k c : Nat} (hc : c ∈ C14) : (spl (m4 k) c).length ≤ 6 := by
 have key0 : ∀ c ∈ C14, (spl m40 c).length ≤ 6 := by decide
 have key1 : ∀ c ∈ C14, (spl m41 c).length ≤ 6 := by decide
 have key2 : ∀ c ∈ C14, (spl m42 c).length ≤ 6 := by decide
 unfold m4
 rcases mod3c (k / 3) with e | e | e <;> rw [e]
 ·exact key0 c hc
 ·exact key1 c hc
 ·exact key2 c hc
theorem escF_len {k : Nat} {l : List Nat} (hl : l.length ≤ 5) (h : ∀ x ∈ l, x ∈ C14) : (escF k l).length ≤ 30 := by
 rw [escF_spl h]
 exact Nat.le_trans (flatMap_le (k := 6) fun x hx => spl_len (h x hx)) (by omega)
theorem flatten_le {ls : List (List Nat)} {k : Nat} (h : ∀ l ∈ ls, l.length ≤ k) : ls.flatten.length ≤ k * ls.length := by
 induction ls with
 | nil => simp
 | cons a l ih =>
  have h1 := h a (by simp)
  have h2 := ih fun x hx => h x (List.mem_cons_of_mem _ hx)
  rw [List.flatten_cons, List.length_append, List.length_cons, Nat.mul_succ]; omega
section
variable {d sig : List Nat} {ns : List (List Nat)}
def mailL (d : List Nat) (ns : List (List Nat)) (i : Nat) : List (List Nat) := (List.range i).map fun k => ns.getD k [] ++ endN (d.getD k 0)
theorem name_len (hN : NamesOk sig ns) (hn : ns.length = 6) (k : Nat) : (ns.getD k []).length ≤ 5 := by
 rw [List.getD_eq_getElem?_getD]
 by_cases hk : k < ns.length
 ·have := hN.len k _ (List.getElem?_eq_getElem hk)
  rw [List.getElem?_eq_getElem hk]; exact Nat.le_trans this (by omega)
 ·rw [List.getElem?_eq_none (by with_reducible exact Nat.le_of_not_lt (by assumption))]; exact Nat.zero_le _
theorem mem_len (hN : NamesOk sig ns) (hn : ns.length = 6) {m : List Nat} (hm : m ∈ ns) : m.length ≤ 5 := by
 refine o1_1 (List.getElem?_of_mem hm) fun k hk => ?_
 have := hN.len k m hk
 have := (List.getElem?_eq_some_iff.mp hk).1
 omega
theorem endN_len (k : Nat) : (endN k).length ≤ 2 := by rcases endN_cases k with h | h | h <;> rw [h] <;> decide
theorem mail_len (hN : NamesOk sig ns) (hn : ns.length = 6) : (mailL d ns 6).flatten.length ≤ 42 := by
 have h := flatten_le (ls := mailL d ns 6) (k := 7) fun l hl => by
  refine o1_2 (List.mem_map.mp hl) fun k _ zc => ?_; obtain rfl := zc
  have h1 := name_len hN hn k
  have h2 := endN_len (d.getD k 0)
  rw [List.length_append]; exact Nat.le_trans (Nat.add_le_add (by first | assumption | exact Nat.le_of_eq (by assumption) | exact Nat.le_refl _) (by first | assumption | exact Nat.le_of_eq (by assumption) | exact Nat.le_refl _)) (by decide)
 have e : (mailL d ns 6).length = 6 := by simp [mailL]
 rw [e] at h; exact h
theorem flat_len (hN : NamesOk sig ns) (hn : ns.length = 6) : (Spt.flatR ns).length ≤ 42 := by
 have h := flatten_le (ls := ns.map (· ++ [13, 10])) (k := 7) fun l hl => by
  refine o1_2 (List.mem_map.mp hl) fun m hm zc => ?_; obtain rfl := zc
  have h1 := mem_len hN hn hm
  rw [List.length_append, List.length_cons, List.length_singleton]; exact Nat.le_trans (Nat.add_le_add_right (by assumption) _) (by decide)
 rw [List.length_map, hn] at h; exact h
theorem dotted_len (l : List Nat) : (dotted l).length ≤ l.length + 1 := by unfold dotted; split <;> simp
theorem flat_len2 (hN : NamesOk sig ns) (hn : ns.length = 6) : (Spt.flatR (ns.map dotted)).length ≤ 48 := by
 have h := flatten_le (ls := (ns.map dotted).map (· ++ [13, 10])) (k := 8) fun l hl => by
  refine o1_2 (List.mem_map.mp hl) fun m hm zc => ?_; obtain rfl := zc
  refine o1_2 (List.mem_map.mp hm) fun m' hm' zc => ?_; obtain rfl := zc
  have h1 := mem_len hN hn hm'
  have h2 := dotted_len m'
  rw [List.length_append, List.length_cons, List.length_singleton]; omega
 rw [List.length_map, List.length_map, hn] at h; exact h
theorem flatR_mem {ms : List (List Nat)} {x : Nat} (h : x ∈ Spt.flatR ms) : x = 13 ∨ x = 10 ∨ ∃ m ∈ ms, x ∈ m := by
 refine o1_2 (List.mem_flatten.mp h) fun l hl hx => ?_
 refine o1_2 (List.mem_map.mp hl) fun m hm zc => ?_; obtain rfl := zc
 rcases List.mem_append.mp hx with h | h
 ·exact .inr (.inr (i1_2 m hm h))
 ·simp at h; rcases h with h | h
  ·exact .inl h
  ·exact .inr (.inl h)
theorem c14_lt : ∀ c ∈ C14, c < 128 ∧ c ≠ 13 ∧ c ≠ 10 ∧ c ≠ 126 := by decide
theorem flat_lt (hN : NamesOk sig ns) (hs : ∀ c ∈ sig, c ∈ C14) : ∀ x ∈ Spt.flatR ns, x < 128 := fun x hx => by
 rcases flatR_mem hx with rfl | rfl | ⟨m, hm, h⟩
 ·decide
 ·decide
 ·exact (c14_lt x (hs x (hN.of_ m hm x h))).1
theorem dotted_mem {l : List Nat} {x : Nat} (h : x ∈ dotted l) : x = 46 ∨ x ∈ l := by
 unfold dotted at h
 split at h
 ·rcases List.mem_cons.mp h with h | h
  ·exact .inl h
  ·exact .inr h
 ·exact .inr h
theorem flat_lt2 (hN : NamesOk sig ns) (hs : ∀ c ∈ sig, c ∈ C14) : ∀ x ∈ Spt.flatR (ns.map dotted), x < 128 := fun x hx => by
 rcases flatR_mem hx with rfl | rfl | ⟨m, hm, h⟩
 ·decide
 ·decide
 ·refine o1_2 (List.mem_map.mp hm) fun m' hm' zc => ?_; obtain rfl := zc
  rcases dotted_mem h with rfl | h
  ·decide
  ·exact (c14_lt x (hs x (hN.of_ m' hm' x h))).1
theorem dot_free (hN : NamesOk sig ns) (hs : ∀ c ∈ sig, c ∈ C14) : ∀ m ∈ ns.map dotted, 13 ∉ m := fun m hm h => by
 refine o1_2 (List.mem_map.mp hm) fun m' hm' zc => ?_; obtain rfl := zc
 rcases dotted_mem h with q | h
 ·cases q
 ·exact (c14_lt 13 (hs 13 (hN.of_ m' hm' 13 h))).2.1 rfl
theorem qp_free {m rest : List Nat} (h : 10 ∉ m) : Re.qp false (m ++ 13 :: 10 :: rest) = m ++ 13 :: 10 :: Re.qp true rest := by
 induction m with
 | nil => rfl
 | cons c m ih =>
  have hc : (c == 10) = false := by
   rw [beq_eq_false_iff_ne]; intro q; exact h (by rw [q]; simp)
  show (if false = true ∧ c = 46 then [46, 46] else [c]) ++ Re.qp (c == 10) (m ++ 13 :: 10 :: rest) = _
  rw [if_neg (fun q => by cases q.1), hc, ih fun q => h (by simp [q])]; rfl
theorem qp_row {m rest : List Nat} (h : 10 ∉ m) : Re.qp true (m ++ 13 :: 10 :: rest) = dotted m ++ 13 :: 10 :: Re.qp true rest := by
 cases m with
 | nil => rfl
 | cons c m =>
  have hc : (c == 10) = false := by
   rw [beq_eq_false_iff_ne]; intro q; exact h (by rw [q]; simp)
  show (if true = true ∧ c = 46 then [46, 46] else [c]) ++ Re.qp (c == 10) (m ++ 13 :: 10 :: rest) = _
  rw [hc, qp_free fun q => h (by simp [q])]
  unfold dotted
  by_cases e : c = 46
  ·subst e; rw [if_pos ⟨rfl, rfl⟩, if_pos (by rfl)]; rfl
  ·rw [if_neg (fun q => e q.2), if_neg (fun q => e (by simpa using q))]; rfl
theorem qp_flatR : ∀ ms : List (List Nat), (∀ m ∈ ms, 10 ∉ m) → Re.qp true (Spt.flatR ms) = Spt.flatR (ms.map dotted)
 | [], _ => rfl
 | m :: ms, h => by
  have e : Spt.flatR (m :: ms) = m ++ 13 :: 10 :: Spt.flatR ms := by simp [Spt.flatR]
  have e2 : Spt.flatR ((m :: ms).map dotted) = dotted m ++ 13 :: 10 :: Spt.flatR (ms.map dotted) := by simp [Spt.flatR]
  rw [e, e2, qp_row (h m (by simp)), qp_flatR ms fun m' h' => h m' (by simp [h'])]
theorem qp_flat (hN : NamesOk sig ns) (hs : ∀ c ∈ sig, c ∈ C14) : Re.qp true (Spt.flatR ns) = Spt.flatR (ns.map dotted) :=
 qp_flatR ns fun m hm h => (c14_lt 10 (hs 10 (hN.of_ m hm 10 h))).2.2.1 rfl
theorem fx_pre {m rest : List Nat} (h : ∀ x ∈ m, x ≠ 13 ∧ x ≠ 10) : Re.fx (m ++ rest) = m ++ Re.fx rest := by
 induction m with
 | nil => rfl
 | cons c m ih =>
  have hc := h c (by simp)
  show Re.fx (c :: (m ++ rest)) = _
  rw [Re.fx_other _ hc.1 hc.2, ih fun x hx => h x (by simp [hx])]; rfl
theorem fx_rows : ∀ ps : List (List Nat × List Nat), (∀ p ∈ ps, (∀ x ∈ p.1, x ≠ 13 ∧ x ≠ 10) ∧ (p.2 = [10] ∨ p.2 = [13] ∨ p.2 = [13, 10])) → (∀ p ∈ ps.tail, p.1 ≠ []) →
  Re.fx (ps.map fun p => p.1 ++ p.2).flatten = Spt.flatR (ps.map (·.1))
 | [], _, _ => rfl
 | p :: ps, h, ht => by
  refine o0_2 (h p (by simp)) fun h1 h2 => ?_
  have ih := fx_rows ps (fun q hq => h q (by simp [hq])) fun q hq => ht q (List.mem_of_mem_tail hq)
  have e2 : Spt.flatR ((p :: ps).map (·.1)) = p.1 ++ 13 :: 10 :: Spt.flatR (ps.map (·.1)) := by simp [Spt.flatR]
  rw [List.map_cons, List.flatten_cons, List.append_assoc, fx_pre h1, e2, ← ih]
  have hne : ∀ r', (ps.map fun p => p.1 ++ p.2).flatten ≠ 10 :: r' := fun r' q => by
   cases ps with
   | nil => cases q
   | cons p' ps =>
    have hp := ht p' (by simp)
    refine o0_2 (h p' (by simp)) fun k1 _ => ?_
    rw [List.map_cons, List.flatten_cons] at q
    obtain ⟨a, b⟩ := p'
    cases a with
    | nil => exact hp rfl
    | cons c a =>
     have := (List.cons.inj q).1
     exact (k1 c (by simp)).2 this
  rcases h2 with e | e | e <;> rw [e]
  ·show p.1 ++ Re.fx (10 :: (ps.map fun p => p.1 ++ p.2).flatten) = _; rw [Re.fx_lf]
  ·show p.1 ++ Re.fx (13 :: (ps.map fun p => p.1 ++ p.2).flatten) = _; rw [Re.fx_cr _ hne]
  ·rfl
theorem list_range {α : Type} {l : List α} {x : α} {k : Nat} (h : l.length = k) : (List.range k).map (fun i => l.getD i x) = l := by
 refine List.ext_getElem (by simp [h]) fun i h1 h2 => ?_
 simp [List.getD_eq_getElem?_getD, h2]
theorem fx_mail (hN : NamesOk sig ns) (hs : ∀ c ∈ sig, c ∈ C14) (hn : ns.length = 6) : Re.fx (mailL d ns 6).flatten = Spt.flatR ns := by
 have h := fx_rows ((List.range 6).map fun k => (ns.getD k [], endN (d.getD k 0))) (fun p hp => ?_) (fun p hp => ?_)
 ·rw [List.map_map, List.map_map] at h
  rw [show ((fun x : List Nat × List Nat => x.1) ∘ fun k => (ns.getD k [], endN (d.getD k 0))) = fun k => ns.getD k [] from rfl, list_range hn] at h
  exact h
 ·refine o1_2 (List.mem_map.mp hp) fun k hk zc => ?_; obtain rfl := zc
  refine ⟨fun x hx => ?_, endN_cases _⟩
  have hk6 : k < ns.length := by rw [hn]; simpa using hk
  have hm : ns.getD k [] ∈ ns := by rw [List.getD_eq_getElem?_getD, List.getElem?_eq_getElem hk6]; exact List.getElem_mem hk6
  have := c14_lt x (hs x (hN.of_ _ hm x hx))
  exact ⟨this.2.1, this.2.2.1⟩
 ·have hp' : p ∈ [1, 2, 3, 4, 5].map fun k => (ns.getD k [], endN (d.getD k 0)) := hp
  refine o1_2 (List.mem_map.mp hp') fun k hk zc => ?_; obtain rfl := zc
  have hk6 : k < ns.length := by rw [hn]; revert hk; simp; omega
  have hk0 : k ≠ 0 := by revert hk; simp; omega
  have := (hN.up k _ (List.getElem?_eq_getElem hk6) hk0).1
  show ns.getD k [] ≠ []
  rw [List.getD_eq_getElem?_getD, List.getElem?_eq_getElem hk6]; exact this
end
end
section
variable {W : Wd} {n : Nat} {env : Env} {wr : List Str} {σ : Sto}
theorem CompSc.mk' {scope : Scope} {cl : List (Str × Addr)} (h1 : closCells scope.names env.cells [] = some cl) (h2 : scope.kind = .function)
  (h3 : (scope.names.all fun p => decide (p.2 = .local → scope.names.lookup p.1 = some .local) && decide (p.2 = .cell → scope.names.lookup p.1 = some .cell)) = true) : CompSc env scope cl := by
 have key : ∀ p ∈ scope.names, (p.2 = .local → scope.names.lookup p.1 = some .local) ∧ (p.2 = .cell → scope.names.lookup p.1 = some .cell) := fun p hp => by
  have := List.all_eq_true.mp h3 p hp
  rw [Bool.and_eq_true, decide_eq_true_eq, decide_eq_true_eq] at this
  exact this
 exact ⟨h1, h2, fun x hx e => (key x hx).1 e, fun x hx => (key (x, .cell) hx).2 rfl⟩
def wrow (d : List Nat) (k : Nat) (l : List Nat) : PV := .list [.str (S l), .str (S (reply l (tailN (d.getD 6 0)))), .str (S (stdOut l (((d.getD k 0 / 5 % 40 : Nat) : Int) - 20))),
 .str (S (escC l ++ lit "</d>")), .str (S (escF (d.getD 6 0) l ++ [34])), .bytes (Re.Bs (dotted l ++ [13, 10]))]
def wrows (d : List Nat) (ns : List (List Nat)) (i : Nat) : List PV := (List.range i).map fun k => wrow d k (ns.getD k [])
theorem nums_get {d : List Nat} {k : Nat} (h : k < d.length) : (d.map fun (n : Nat) => PV.int (n : Int))[k]? = some (.int ((d.getD k 0 : Nat) : Int)) := by
 rw [List.getElem?_map, List.getElem?_eq_getElem h, List.getD_eq_getElem?_getD, List.getElem?_eq_getElem h]; rfl
theorem mod3 {α : Type} {a b c x : α} {k : Nat} : [a, b, c][k % 3]? = some ([a, b, c].getD (k % 3) x) := by
 have := Nat.mod_lt k (show 0 < 3 by decide)
 have h : k % 3 = 0 ∨ k % 3 = 1 ∨ k % 3 = 2 := by exact Om.mod3 _
 rcases h with h | h | h <;> rw [h] <;> rfl
theorem binds28 : Binds (top 28) ["names", "drawn"] := fun name qual kV doc pm an cdv ct vals hv => by
 refine o2_1 (list2 hv) fun _ _ zc => ?_; obtain rfl := zc; rfl
def escV (fa fn fh : Addr) (k : Nat) : Value := [Value.ref fa, .ref fn, .ref fh].getD (k / 3 % 3) (.ref fa)
theorem escV_get {fa fn fh : Addr} {k : Nat} : [PV.val (.ref fa), .val (.ref fn), .val (.ref fh)][k / 3 % 3]? = some (.val (escV fa fn fh k)) := by
 have := Nat.mod_lt (k / 3) (show 0 < 3 by decide)
 have h : k / 3 % 3 = 0 ∨ k / 3 % 3 = 1 ∨ k / 3 % 3 = 2 := by exact Om.mod3 _
 unfold escV
 rcases h with h | h | h <;> rw [h] <;> rfl
theorem enum_get {ns : List (List Nat)} {i : Nat} {p : List PV} (h : (enumPV (txs ns))[i]? = some p) : i < ns.length ∧ p = [.int (i : Int), .str (S (ns.getD i []))] := by
 have hi : i < ns.length := by have := (List.getElem?_eq_some_iff.mp h).1; simpa [enumPV, txs] using this
 have e : (txs ns)[i]? = some (.str (S (ns.getD i []))) := by rw [txs_get, List.getD_eq_getElem?_getD, List.getElem?_eq_getElem hi]; rfl
 rw [enumPV_get e] at h
 exact ⟨hi, (Option.some.inj h).symm⟩
theorem enum_item {ns : List (List Nat)} {i : Nat} {p : PV} (h : ((enumPV (txs ns)).map PV.tuple)[i]? = some p) : i < ns.length ∧ p = .tuple [.int (i : Int), .str (S (ns.getD i []))] := by
 rw [List.getElem?_map] at h
 cases e : (enumPV (txs ns))[i]? with
 | none => rw [e] at h; cases h
 | some q => rw [e] at h; refine o0_2 (enum_get e) fun h1 h2 => ?_; exact ⟨h1, by rw [← h2]; exact (Option.some.inj h).symm⟩
theorem endN_get {k : Nat} : [PV.str (S (lit "\n")), .str (S (lit "\r")), .str (S (lit "\r\n"))][k / 7 % 3]? = some (.str (S (endN k))) := by
 have := Nat.mod_lt (k / 7) (show 0 < 3 by decide)
 have h : k / 7 % 3 = 0 ∨ k / 7 % 3 = 1 ∨ k / 7 % 3 = 2 := by exact Om.mod3 _
 unfold endN
 rcases h with h | h | h <;> rw [h] <;> rfl
theorem CallP.joinS {ls : List (List Nat)} {Ψ : PV → Prop} (hz : ls.flatten.length ≤ 65536) (h : Ψ (.str (S ls.flatten))) : CallP W n (.val (.builtin "str.join")) [.str (S (lit "")), .list (ls.map fun l => .str (S l))] Ψ := by
 have e : (ls.map fun l => PV.str (S l)) = (ls.map S).map .str := by simp
 rw [e, show lit "" = [] from rfl]
 exact CallP.join (Re.joinOk_S hz) (by rw [Re.txt_join]; exact h)
theorem Ev.preRepl {x : Str} {u l r : List Nat} {c : Nat} {w y z : Str} {ku ky kz : Nat} {bpos pu xpos apos cpos py pz : Pos} {pl : Sem Bool} {Ψ : PV → Sto → Prop} (hx : σ.lookup x = some (.fz (.str (S l)))) (hw : w = S u) (hy : y = S [c]) (hz : z = S r)
  (hlen : l.length ≤ 100) (hu : u.length ≤ 100) (hr : 2 ≤ r.length) (hr2 : r.length ≤ 6) (h : Ψ (.str (S (u ++ rep c r l))) σ)
  (he : eval (.Call (.Attribute (.Name x xpos) "replace" apos) [.Constant (.str y) ky py, .Constant (.str z) kz pz] [] cpos) env = (do
   let ov ← eval (.Name x xpos) env
   standAt apos.atName
   let (f, first) ← holding [ov] (getMethod ov "replace" pl)
   callWith cpos f first (backTo cpos (starEach [.Constant (.str y) ky py, .Constant (.str z) kz pz] env)) []) := by with_unfolding_all rfl)
  (hd : (x == ("__debug__" : Str)) = false := by decide) (hn : (x == ("__classdict__" : Str)) = false := by decide) :
  Ev W n env wr (.BinOp (.Constant (.str w) ku pu) .Add (.Call (.Attribute (.Name x xpos) "replace" apos) [.Constant (.str y) ky py, .Constant (.str z) kz pz] [] cpos) bpos) σ Ψ := fun A N K G s R S₀ => by
 subst hw hy hz
 refine wpAny_BinOp (wpAny_Constant_str (replace_wp (S₀.tok _) (Nat.succ_pos _) hx ?_ ?_ (fun v k rv => ?_) he hd hn))
 ·rw [S_beq]
  cases r with
  | nil => simp at hr
  | cons a r =>
   cases r with
   | nil => simp at hr
   | cons b r => exact beq_eq_false_iff_ne.mpr fun q => by simp at q
 ·rw [S_len, S_len]
  exact Nat.le_trans (Nat.add_le_add hlen (Nat.mul_le_mul (Nat.succ_le_succ hlen) hr2)) (by decide)
 ·rw [replace_S] at rv
  refine fV (S₀.tok k) (PH.Le.refl _) (BinP.addSL (a := u) (b := rep c r l) (Ψ := fun p => Ψ p σ) ?_ h A _ G _ _ _ R (S₀.tok k).hp Rep.st rv) fun _ x => x
  have := rep_le (c := c) (m := 600) hr2 hlen (by decide)
  exact Nat.le_trans (Nat.add_le_add (by first | assumption | exact Nat.le_of_eq (by assumption) | exact Nat.le_refl _) (by first | assumption | exact Nat.le_of_eq (by assumption) | exact Nat.le_refl _)) (by decide)
theorem escV_ok {fa fn fh : Addr} (ha : FnAt W "_escape_attrib" 20 fa) (hn : FnAt W "_escape_attrib_c14n" 22 fn) (hh : FnAt W "_escape_attrib_html" 21 fh) {k : Nat} {l : List Nat} (hl : l.length ≤ 5) {Ψ : PV → Prop} (h : Ψ (.str (S (escF k l)))) :
  CallP W (n + 1) (.val (escV fa fn fh k)) [.str (S l)] Ψ := by
 have := Nat.mod_lt (k / 3) (show 0 < 3 by decide)
 have h3 : k / 3 % 3 = 0 ∨ k / 3 % 3 = 1 ∨ k / 3 % 3 = 2 := by exact Om.mod3 _
 unfold escV
 unfold escF at h
 rcases h3 with e | e | e <;> rw [e] at h ⊢
 ·exact escA_ok ha hl h
 ·exact escN_ok hn hl h
 ·exact escH_ok hh hl h
theorem escV_keep {fa fn fh : Addr} (ha : FnAt W "_escape_attrib" 20 fa) (hn : FnAt W "_escape_attrib_c14n" 22 fn) (hh : FnAt W "_escape_attrib_html" 21 fh) {k : Nat} : KeepOk W (escV fa fn fh k) := by
 have := Nat.mod_lt (k / 3) (show 0 < 3 by decide)
 have h3 : k / 3 % 3 = 0 ∨ k / 3 % 3 = 1 ∨ k / 3 % 3 = 2 := by exact Om.mod3 _
 unfold escV
 rcases h3 with e | e | e <;> rw [e]
 ·exact ha.toFnOb.keep
 ·exact hn.toFnOb.keep
 ·exact hh.toFnOb.keep
theorem tailN_len (k : Nat) : (tailN k).length ≤ 5 := by
 have := Nat.mod_lt k (show 0 < 3 by decide)
 have h : k % 3 = 0 ∨ k % 3 = 1 ∨ k % 3 = 2 := by exact Om.mod3 _
 unfold tailN
 rcases h with h | h | h <;> rw [h] <;> decide
theorem tailN_head (k : Nat) : (tailN k)[0]? ≠ some 34 := by
 have := Nat.mod_lt k (show 0 < 3 by decide)
 have h : k % 3 = 0 ∨ k % 3 = 1 ∨ k % 3 = 2 := by exact Om.mod3 _
 unfold tailN
 rcases h with h | h | h <;> rw [h] <;> decide
theorem rep_le6 {c : Nat} {r l : List Nat} (h : r.length ≤ 6) : (rep c r l).length ≤ 6 * l.length := rep_le h (Nat.le_refl _) (Nat.le_refl _)
theorem esc_len {k : Nat} {l : List Nat} (hk : 1080 ≤ k) (hl : l.length ≤ 5) : (escC l).length ≤ k := by
 have b1 : (rep 38 (lit "&amp;") l).length ≤ 30 := rep_le (by decide) hl (by decide)
 have b2 : (rep 60 (lit "&lt;") (rep 38 (lit "&amp;") l)).length ≤ 180 := rep_le (by decide) b1 (by decide)
 exact rep_le (by decide) b2 (by assumption)
structure WFns (W : Wd) (fa fn fh fq ff fs fp fc : Addr) : Prop where
 a : FnAt W "_escape_attrib" 20 fa
 n : FnAt W "_escape_attrib_c14n" 22 fn
 h : FnAt W "_escape_attrib_html" 21 fh
 q : FnAt W "_quote_periods" 14 fq
 f : FnAt W "_fix_eols" 15 ff
 s : FnAt W "func_std_string" 3 fs
 p : FnAt W "parse257" 9 fp
 c : FnAt W "_escape_cdata" 19 fc
theorem written_ok {f fa fn fh fq ff fs fp fc P1 P2 : Addr} {t : Tok} (hf : FnAt W "_law_written" 28 f) (hF : WFns W fa fn fh fq ff fs fp fc)
  (hp1 : W.Top "_twin_re_1" (.ref P1)) (hP1 : Re.PatOb W.h₀ P1 Re.code1 true) (hp2 : W.Top "_twin_re_2" (.ref P2)) (hP2 : Re.PatOb W.h₀ P2 Re.code2 false) (hc : W.Top "CRLF" (.str (S [13, 10]) t))
  (hle : W.Top "len" (.builtin "len")) (hen : W.Top "enumerate" (.type "enumerate"))
  {sig d : List Nat} {ns : List (List Nat)} (hd : d.length = 8) (hn : ns.length = 6) (hN : NamesOk sig ns) (hs : ∀ c ∈ sig, c ∈ C14) {Ψ : PV → Prop} (h : Ψ (.list (wrows d ns 6))) :
  CallP W (n + 2) (.val (.ref f)) [.list (txs ns), nums d] Ψ := by
 have hfa := hF.a; have hfn := hF.n; have hfh := hF.h; have hfq := hF.q; have hff := hF.f; have hfs := hF.s; have hfp := hF.p; have hfc := hF.c
 have hlen : ∀ k, (ns.getD k []).length ≤ 5 := name_len hN hn
 refine CallP.ob hf.toFnOb ["names", "drawn"] binds28 fun qual L cdv => ?_
 refine Ex.cons ?_
 fail "e"
 refine SubS.of (SubP.list (k := 6) (p := .int ((d.getD 6 0 : Nat) : Int)) (by decide) (by decide) (nums_get (by with_reducible exact Om.ltEq (by assumption) (by decide))) ?_)
 fail "e"
 refine SubS.of (SubP.list (p := .str (S (tailN (d.getD 6 0)))) (Int.natCast_nonneg _) (by with_reducible exact Om.castLt (Nat.mod_lt _ (by decide)) (by decide)) (by rw [Int.toNat_natCast]; exact (mod3 (x := PV.none)).trans (by unfold tailN; rcases (show d.getD 6 0 % 3 = 0 ∨ d.getD 6 0 % 3 = 1 ∨ d.getD 6 0 % 3 = 2 by exact Om.mod3 _) with h | h | h <;> rw [h] <;> rfl)) ?_)
 fail "e"
 refine SubS.of (SubP.list (k := 6) (p := .int ((d.getD 6 0 : Nat) : Int)) (by decide) (by decide) (nums_get (by with_reducible exact Om.ltEq (by assumption) (by decide))) ?_)
 fail "e"
 refine SubS.of (SubP.list (p := .val (escV fa fn fh (d.getD 6 0))) (Int.natCast_nonneg _) (by with_reducible exact Om.castLt (Nat.mod_lt _ (by decide)) (by decide)) (by rw [Int.toNat_natCast]; exact escV_get) ?_)
 fail "e"
 refine ⟨_, MethS.of (MethT.str F.slot_str_join F.type_str_join), KeepOk.builtin, ?_⟩
 refine Evs.cons (Ev.comp1 (CompSc.mk' (by with_unfolding_all rfl) (by with_unfolding_all rfl) (by decide)) (EvX.tuple (EvT'.enumerate (by rfl) (by rfl) hen ?_)))
 fail "e"
 refine (i1_2 ([("drawn", nums d)]) ⟨fun x p hx => ?_⟩ (fun C => ?_))
 ·rw [List.mem_singleton] at hx; cases hx
  exact ⟨by fail "look", by decide, fun q => by cases (show some NameKind.cell = some NameKind.local from q)⟩
 refine compB.inv (fun i σ' acc => List.lookup (Str.ofString "drawn") σ' = some (SV.fz (nums d)) ∧ acc = (mailL d ns i).map fun l => .str (S l)) ⟨by fail "look", rfl⟩ ?_ ?_
 ·intro i p σ' acc hp oI Φ' kk; refine o0_2 oI fun g1 zb => ?_; clear oI; obtain rfl := zb
  refine o0_2 (enum_item hp) fun hi zb => ?_; obtain rfl := zb
  refine AsgX.tup (by rfl) ?_
  fail "e"
  refine CTs.yes ?_
  refine ⟨by rw [List.length_map, mailL, List.length_map, List.length_range]; exact Nat.le_trans (by exact Nat.le_of_lt (Om.ltEqLe (by assumption) (by assumption) (by decide)) : i ≤ 64) (by decide), ?_⟩
  fail "e"
  refine SubS.of (SubP.list (p := .int ((d.getD i 0 : Nat) : Int)) (Int.natCast_nonneg _) (by exact Om.castLtEq (by assumption) (by assumption) (by decide)) (by rw [Int.toNat_natCast]; exact nums_get (by exact Om.ltEqLe' (by assumption) (by assumption) (by assumption) (by decide))) ?_)
  fail "e"
  refine SubS.of (SubP.list (p := .str (S (endN (d.getD i 0)))) (Int.natCast_nonneg _) (by with_reducible exact Om.castLt (Nat.mod_lt _ (by decide)) (by decide)) (by rw [Int.toNat_natCast]; exact endN_get) ?_)
  refine BinP.addSL (by have := hlen i; have := endN_len (d.getD i 0); exact Nat.le_trans (Nat.add_le_add (by first | assumption | exact Nat.le_of_eq (by assumption) | exact Nat.le_refl _) (by first | assumption | exact Nat.le_of_eq (by assumption) | exact Nat.le_refl _)) (by decide)) ?_
  refine kk _ _ ⟨by fail "look", ?_⟩
  rw [mailL, mailL, List.range_succ, List.map_append, List.map_append]; rfl
 ·intro σ' acc oI; refine o0_2 oI fun g1 zb => ?_; clear oI; obtain rfl := zb
  fail "e"
  rw [show ((enumPV (txs ns)).map PV.tuple).length = 6 by simp [enumPV, txs, hn]]
  refine CallS.of (CallP.joinS (Nat.le_trans (mail_len hN hn) (by decide)) ?_)
  fail "e"
  refine CallS.of (fix_ok hff hp2 hP2 hc (Nat.le_trans (mail_len hN hn) (by decide)) (by rw [fx_mail hN hs hn]; exact Nat.le_trans (flat_len hN hn) (by decide)) ?_)
  rw [fx_mail hN hs hn]
  fail "e"
  refine ⟨_, MethS.of (MethT.str F.slot_str_encode F.type_str_encode), KeepOk.builtin, ?_⟩
  fail "e"
  refine CallS.of (CallP.encode (flat_lt hN hs) (Nat.le_trans (flat_len hN hn) (by decide)) ?_)
  fail "e"
  refine CallS.of (quote_ok hfq hp1 hP1 (Nat.le_trans (flat_len hN hn) (by decide)) (fun x hx => Nat.lt_trans (flat_lt hN hs x hx) (by decide)) (by rw [qp_flat hN hs]; exact Nat.le_trans (flat_len2 hN hn) (by decide)) ?_)
  rw [qp_flat hN hs]
  fail "e"
  refine ⟨_, MethS.of (MethT.bytes FR.slot_bsplit FR.type_bsplit), KeepOk.builtin, ?_⟩
  fail "e"
  refine CallS.of (CallP.split (ms := ns.map dotted) (by intro q; have := congrArg List.length q; simp [hn] at this) (fun x hx => Nat.lt_trans (flat_lt2 hN hs x hx) (by decide)) (dot_free hN hs) (Nat.le_trans (flat_len2 hN hn) (by decide)) ?_)
  have hsl : (List.map (fun m => PV.bytes (Re.Bs m)) (ns.map dotted ++ [[]])).length = 7 := by simp [hn]
  fail "e"
  refine CallS.of (CallP.lenL (by rw [hsl]; decide) ?_)
  rw [hsl]
  fail "e"
  have htl : (txs ns).length = 6 := by simp [txs, hn]
  refine CallS.of (CallP.lenL (by rw [htl]; decide) ?_)
  rw [htl]
  fail "e"
  refine iteP (by decide) ?_
  fail "e"
  refine SubS.of (SubP.listNeg (p := .bytes (Re.Bs [])) (by decide) (by rw [hsl]; decide) (by decide) (by rw [hsl]; show (List.map (fun m => PV.bytes (Re.Bs m)) (ns.map dotted ++ [[]]))[6]? = _; simp [hn]) ?_)
  fail "e"
  refine iteP (by first | (rw [show ((Re.Bs []).toList != [].toArray.toList) = false from rfl]; done) | (rw [show ((Re.Bs []).toList != [].toArray.toList) = false from rfl]; rfl)) ?_
  fail "e"
  refine iteF (show (BoolOp.Or == BoolOp.And) = false from rfl) ?_
  fail "e"
  intro c
  fail "ev"
  with_reducible refine Ex1.forTI ?_
  refine EvT'.enumerate (by rfl) (by rfl) hen ?_
  fail "e"
  refine forT.inv (fun i σ => List.lookup (Str.ofString "drawn") σ = some (SV.fz (nums d)) ∧ List.lookup (Str.ofString "tail") σ = some (SV.fz (.str (S (tailN (d.getD 6 0))))) ∧
   List.lookup (Str.ofString "escape") σ = some (SV.fz (.val (escV fa fn fh (d.getD 6 0)))) ∧ List.lookup (Str.ofString "sent") σ = some (SV.fz (PV.list (List.map (fun m => PV.bytes (Re.Bs m)) (ns.map dotted ++ [[]])))) ∧
   List.lookup (Str.ofString "written") σ = some (SV.ol c (wrows d ns i))) ⟨by fail "look", by fail "look", by fail "look", by fail "look", by fail "look"⟩ ?_ ?_
  ·intro i p σ hp oI Φ kk; refine o0_5 oI fun g1 g2 g3 g4 g5 => ?_; clear oI
   refine o0_2 (enum_get hp) fun hi zb => ?_; obtain rfl := zb
   refine ⟨rfl, ?_⟩
   have hl := hlen i
   generalize hnl : ns.getD i [] = l at hl
   iterate 9 fail "ev"
   have ht : (tailN (d.getD 6 0)).length ≤ 5 := tailN_len _
   refine Ev.preRepl (u := lit "257 \"") (l := l) (r := [34, 34]) (c := 34) (by fail "look") (by rfl) (by rfl) (by rfl) (by with_reducible exact Nat.le_trans (by assumption) (by decide)) (by decide) (by decide) (by decide) ?_
   have hq : (rep 34 [34, 34] l).length ≤ 30 := rep_le (by decide) hl (by decide)
   fail "e"
   refine BinP.addSL (by
     rw [List.length_append]; have : (lit "257 \"").length = 5 := by decide
     have : (lit "\"").length = 1 := by decide
     exact Nat.le_trans (Nat.add_le_add (Nat.add_le_add (by first | assumption | exact Nat.le_of_eq (by assumption) | exact Nat.le_refl _) (by first | assumption | exact Nat.le_of_eq (by assumption) | exact Nat.le_refl _)) (by first | assumption | exact Nat.le_of_eq (by assumption) | exact Nat.le_refl _)) (by decide)) ?_
   fail "e"
   refine BinP.addSL (by
     rw [List.length_append, List.length_append]; have : (lit "257 \"").length = 5 := by decide
     have : (lit "\"").length = 1 := by decide
     exact Nat.le_trans (Nat.add_le_add (Nat.add_le_add (Nat.add_le_add (by first | assumption | exact Nat.le_of_eq (by assumption) | exact Nat.le_refl _) (by first | assumption | exact Nat.le_of_eq (by assumption) | exact Nat.le_refl _)) (by first | assumption | exact Nat.le_of_eq (by assumption) | exact Nat.le_refl _)) (by first | assumption | exact Nat.le_of_eq (by assumption) | exact Nat.le_refl _)) (by decide)) ?_
   rw [show lit "257 \"" ++ rep 34 [34, 34] l ++ lit "\"" ++ tailN (d.getD 6 0) = reply l (tailN (d.getD 6 0)) from rfl]
   fail "e"
   refine SubS.of (SubP.list (p := .int ((d.getD i 0 : Nat) : Int)) (Int.natCast_nonneg _) (by exact Om.castLtEq (by assumption) (by assumption) (by decide)) (by rw [Int.toNat_natCast]; exact nums_get (by exact Om.ltEqLe' (by assumption) (by assumption) (by assumption) (by decide))) ?_)
   fail "e"
   have h40 := Nat.mod_lt (d.getD i 0 / 5) (show 0 < 40 by decide)
   have hsig : ∀ x ∈ l, x ∈ C14 := fun x hx => hs x (hN.of_ l (by rw [← hnl, List.getD_eq_getElem?_getD, List.getElem?_eq_getElem hi]; exact List.getElem_mem hi) x hx)
   refine CallS.of (std_ok hfs (m := ((d.getD i 0 / 5 % 40 : Nat) : Int) - 20) hl (by exact Om.h40l) (by exact Om.h40u (by assumption)) (fun q => by have := hsig 126 (by rw [q]; decide); revert this; decide) ?_)
   fail "e"
   refine Ev.borrowL (by fail "look") ⟨_, MethS.list (x := "written") (by fail "look") F.slot_list_append F.type_list_append, KeepOk.builtin, ?_⟩
   fail "e"
   refine CallS.of (parse_ok hfp hle hl (tailN_head _) ht ?_)
   fail "e"
   have hcC : (escC l).length ≤ 1080 := esc_len (by decide) hl
   refine CallS.of (escC_ok hfc hl ?_)
   fail "e"
   refine BinP.addSL (by
     have : (lit "</d>").length = 4 := by decide
     exact Nat.le_trans (Nat.add_le_add_right (by assumption) _) (by decide)) ?_
   fail "e"
   refine Ev.callS (Ev.var (by fail "look") (i1_3 _ rfl (escV_keep hfa hfn hfh) ?_))
   fail "e"
   refine CallS.of (escV_ok hfa hfn hfh hl ?_)
   fail "e"
   refine BinP.addSL (by
     have := escF_len (k := d.getD 6 0) hl hsig; have : (lit "\"").length = 1 := by decide
     exact Nat.le_trans (Nat.succ_le_succ (by assumption)) (by decide)) ?_
   fail "e"
   refine SubS.of (SubP.list (p := .bytes (Re.Bs (dotted l))) (Int.natCast_nonneg _) (by exact Om.castLtEq (by assumption) (by assumption) (by decide)) (by rw [Int.toNat_natCast, List.getElem?_map, List.getElem?_append_left (by rw [List.length_map]; exact hi), List.getElem?_map, List.getElem?_eq_getElem hi, ← hnl, List.getD_eq_getElem?_getD, List.getElem?_eq_getElem hi]; rfl) ?_)
   fail "e"
   refine BinP.addB (by have := dotted_len l; rw [Re.Bs_size]; show _ + 2 ≤ _; omega) ?_
   rw [show Re.Bs (dotted l) ++ [13, 10].toArray = Re.Bs (dotted l ++ [13, 10]) from Re.Bs_app _ [13, 10]]
   fail "e"
   refine CallS.append (x := "written") (by fail "look") (by rw [wrows, List.length_map, List.length_range]; exact Nat.le_trans (by exact Nat.le_of_lt (Om.ltEqLe (by assumption) (by assumption) (by decide)) : i ≤ 64) (by decide)) ?_
   fail "e"
   refine kk _ ⟨by fail "look", by fail "look", by fail "look", by fail "look", ?_⟩
   rw [show wrows d ns (i + 1) = wrows d ns i ++ [wrow d i l] by rw [wrows, wrows, List.range_succ, List.map_append, ← hnl]; rfl]
   fail "look"
  ·rintro σ ⟨g1, g2, g3, g4, g5⟩
   rw [show (enumPV (txs ns)).length = 6 by simp [enumPV, txs, hn]] at g5
   fail "e"
   refine Ev.own (by fail "look") rfl ?_
   exact h
end
section
variable {W : Wd} {n : Nat} {env : Env} {wr : List Str} {σ : Sto}
theorem signs_S (l : List Nat) : signs (S l) = sgn l := by simp [signs, sgn, S, ch]
theorem dget_tab {sig : List Nat} {t : Tab} {c : Nat} (h : c ∈ sig) : dget (tabPV sig t) (S [c]) = some (.str (S (spl t.m c))) := by
 have key : ∀ sig : List Nat, c ∈ sig → dget (sig.map fun c => (S [c], PV.str (S (spl t.m c)))) (S [c]) = some (.str (S (spl t.m c))) := by
  intro sig
  induction sig with
  | nil => intro h; cases h
  | cons a sig ih =>
   intro h
   by_cases e : a = c
   ·subst e; simp [dget]
   ·have h1 : S [a] ≠ S [c] := fun q => e (by have := S_inj q; simpa using this)
    have h2 : c ∈ sig := (List.mem_cons.mp h).resolve_left (fun q => e q.symm)
    have := ih h2
    simpa [dget, h1] using this
 have h0 : S [] ≠ S [c] := fun q => by have := S_inj q; cases this
 have := key sig h
 unfold tabPV
 simpa [dget, h0] using this
theorem dget_tab0 {sig : List Nat} {t : Tab} : dget (tabPV sig t) (S []) = some (.str (S t.end_)) := by simp [dget, tabPV]
theorem binds29 : Binds (top 29) ["names", "drawn", "tables"] := fun name qual kV doc pm an cdv ct vals hv => by
 refine o3_1 (list3 hv) fun _ _ _ zd => ?_; obtain rfl := zd; rfl
def tabTxt (l : List Nat) (t : Tab) : List Nat := l.flatMap (spl t.m) ++ t.end_
theorem tab_len {k c : Nat} {t : Tab} (h : t ∈ tabs k) (hc : c ∈ C14) : (spl t.m c).length ≤ 6 := by
 have k0 : ∀ c ∈ C14, (spl [] c).length ≤ 6 := by decide
 have k1 : ∀ c ∈ C14, (spl [(34, [34, 34])] c).length ≤ 6 := by decide
 have k2 : ∀ c ∈ C14, (spl m3 c).length ≤ 6 := by decide
 unfold tabs at h
 simp only [List.mem_cons, List.not_mem_nil, or_false] at h
 rcases h with rfl | rfl | rfl | rfl | rfl | rfl
 ·exact k0 c hc
 ·exact k1 c hc
 ·exact k0 c hc
 ·exact k2 c hc
 ·exact spl_len hc
 ·exact k0 c hc
theorem end_len {k : Nat} {t : Tab} (h : t ∈ tabs k) : t.end_.length ≤ 6 := by
 unfold tabs at h
 simp only [List.mem_cons, List.not_mem_nil, or_false] at h
 have := tailN_len k
 rcases h with rfl | rfl | rfl | rfl | rfl | rfl
 ·exact Nat.zero_le _
 ·show (tailN k).length + 1 ≤ 6; exact Nat.le_trans (Nat.succ_le_succ (by assumption)) (by decide)
 ·show 1 ≤ 6; decide
 ·show (lit "</d>").length ≤ 6; decide
 ·show 1 ≤ 6; decide
 ·show 2 ≤ 6; decide
def intL (a : Int) : List Nat := (Str.ofString (toString a)).cps.toList
theorem CallP.strL {a : Int} {Ψ : PV → Prop} (hs : a.natAbs.log2 < 1920) (h : Ψ (.str (S (intL a)))) : CallP W n (.val (.type "str")) [.int a] Ψ :=
 CallP.strI hs (by rw [show S (intL a) = Str.ofString (toString a) by simp [S, intL]] at h; exact h)
theorem int_len {x : Nat} (h : x < 40) : (intL ((x : Int) - 20)).length ≤ 3 := by
 have key : ∀ x : Fin 40, (intL ((x.val : Int) - 20)).length ≤ 3 := by decide +kernel
 exact key ⟨x, h⟩
theorem cut1 (l : List Nat) : (cut l none (some 1) == lit ".") = if l.head? = some 46 then true else false := by
 cases l with
 | nil => rfl
 | cons c l =>
  have e : cut (c :: l) none (some 1) = [c] := by unfold cut; simp
  rw [e, show lit "." = [46] from rfl]
  by_cases h : c = 46
  ·subst h; rfl
  ·rw [if_neg (by simpa using h)]; simpa using h
theorem spelled_ok {f : Addr} (hf : FnAt W "_law_spelled" 29 f) (hst : W.Top "str" (.type "str")) (hen : W.Top "enumerate" (.type "enumerate"))
  {sig d : List Nat} {ns : List (List Nat)} (hd : d.length = 8) (hn : ns.length = 6) (hN : NamesOk sig ns) (hs : ∀ c ∈ sig, c ∈ C14) {Ψ : PV → Prop} (h : Ψ (.list (wrows d ns 6))) :
  CallP W (n + 2) (.val (.ref f)) [.list (txs ns), nums d, tabsPV sig (d.getD 6 0)] Ψ := by
 have hlen : ∀ k, (ns.getD k []).length ≤ 5 := name_len hN hn
 refine CallP.ob hf.toFnOb ["names", "drawn", "tables"] binds29 fun qual L cdv => ?_
 refine Ex.cons ?_
 fail "e"
 intro c
 fail "ev"
 with_reducible refine Ex1.forTI ?_
 refine EvT'.enumerate (by rfl) (by rfl) hen ?_
 fail "e"
 refine forT.inv (fun i σ => List.lookup (Str.ofString "drawn") σ = some (SV.fz (nums d)) ∧ List.lookup (Str.ofString "tables") σ = some (SV.fz (tabsPV sig (d.getD 6 0))) ∧
   List.lookup (Str.ofString "spelled") σ = some (SV.ol c (wrows d ns i))) ⟨by fail "look", by fail "look", by fail "look"⟩ ?_ ?_
 ·intro i p σ hp oI Φ kk; refine o0_3 oI fun g1 g2 g3 => ?_; clear oI
  refine o0_2 (enum_get hp) fun hi zb => ?_; obtain rfl := zb
  refine ⟨rfl, ?_⟩
  have hl := hlen i
  have hsig' : ∀ x ∈ ns.getD i [], x ∈ sig := fun x hx => hN.of_ _ (by rw [List.getD_eq_getElem?_getD, List.getElem?_eq_getElem hi]; exact List.getElem_mem hi) x hx
  generalize hnl : ns.getD i [] = l at hl hsig'
  have hsig : ∀ x ∈ l, x ∈ C14 := fun x hx => hs x (hsig' x hx)
  fail "e"
  refine Ex1.comp1 true (by fail "wr") (by with_unfolding_all rfl) (CompSc.mk' (by with_unfolding_all rfl) (by with_unfolding_all rfl) (by decide)) (EvX.name (EvI.of ?_)) 
  fail "e"
  refine ⟨_, IterP.list, [("name", .str (S l))], ⟨fun x p hx => ?_⟩, fun C => ?_⟩
  ·rw [List.mem_singleton] at hx; cases hx
   exact ⟨by fail "look", by decide, fun q => by cases (show some NameKind.cell = some NameKind.local from q)⟩
  refine compB.inv (fun i σ' acc => List.lookup (Str.ofString "name") σ' = some (SV.fz (.str (S l))) ∧ acc = ((tabs (d.getD 6 0)).take i).map fun t => .str (S (tabTxt l t))) ⟨by fail "look", rfl⟩ ?_ ?_
  ·intro j p σ' acc hp oI Φ' kk'; refine o0_2 oI fun k1 zb => ?_; clear oI; obtain rfl := zb
   rw [List.getElem?_map] at hp
   cases et : (tabs (d.getD 6 0))[j]? with
   | none => rw [et] at hp; cases hp
   | some t =>
    rw [et] at hp
    have hp : p = .dict (tabPV sig t) := (Option.some.inj hp).symm
    subst hp
    have hj : j < 6 := (List.getElem?_eq_some_iff.mp et).1
    have htm : t ∈ tabs (d.getD 6 0) := List.mem_of_getElem? et
    refine AsgX.name (by fail "wr") ?_
    refine CTs.yes ?_
    refine ⟨by rw [List.length_map, List.length_take]; exact Nat.le_trans (by exact Nat.le_trans (Nat.min_le_left _ _) (Nat.le_trans (Nat.le_of_lt (by assumption)) (by decide)) : _ ≤ 64) (by decide), ?_⟩
    fail "e"
    refine ⟨_, MethS.of (MethT.str F.slot_str_join F.type_str_join), KeepOk.builtin, ?_⟩
    refine Evs.cons (Ev.comp1 (CompSc.mk' (by with_unfolding_all rfl) (by with_unfolding_all rfl) (by decide)) (EvX.name (EvI.of ?_)))
    fail "e"
    refine ⟨_, IterP.str, [("table", .dict (tabPV sig t))], ⟨fun x p hx => ?_⟩, fun C' => ?_⟩
    ·rw [List.mem_singleton] at hx; cases hx
     exact ⟨by fail "look", by decide, fun q => by cases (show some NameKind.cell = some NameKind.local from q)⟩
    rw [signs_S]
    have hlt : ∀ c ∈ l, (spl t.m c).length ≤ 6 := fun c hc => tab_len htm (hsig c hc)
    refine compB.inv (fun m σ'' acc => List.lookup (Str.ofString "table") σ'' = some (SV.fz (.dict (tabPV sig t))) ∧ acc = ((l.take m).map (spl t.m)).map fun l => .str (S l)) ⟨by fail "look", rfl⟩ ?_ ?_
    ·intro m p σ'' acc hp oI Φ'' kk''; refine o0_2 oI fun k2 zb => ?_; clear oI; obtain rfl := zb
     unfold sgn at hp
     rw [List.getElem?_map] at hp
     cases ec : l[m]? with
     | none => rw [ec] at hp; cases hp
     | some c =>
      rw [ec] at hp
      have hp : p = .str (S [c]) := (Option.some.inj hp).symm
      subst hp
      have hm : m < l.length := (List.getElem?_eq_some_iff.mp ec).1
      refine AsgX.name (by fail "wr") ?_
      refine CTs.yes ?_
      refine ⟨by rw [List.length_map, List.length_map, List.length_take]; exact Nat.le_trans (by with_reducible exact Nat.le_trans (Nat.min_le_right _ _) (Nat.le_trans (by assumption) (by decide)) : _ ≤ 64) (by decide), ?_⟩
      fail "e"
      refine SubS.of (SubP.dict (dget_tab (hsig' c (List.mem_of_getElem? ec))) ?_)
      refine kk'' _ _ ⟨by fail "look", ?_⟩
      rw [List.take_add_one, ec, List.map_append, List.map_append]; rfl
    ·intro σ'' acc oI; refine o0_2 oI fun k2 zb => ?_; clear oI; obtain rfl := zb
     have hsl : (sgn l).length = l.length := by simp [sgn]
     rw [hsl, List.take_length]
     have hjl : (l.map (spl t.m)).flatten.length ≤ 30 := by
      have := flatMap_le hlt
      rw [List.flatMap_def] at this; omega
     fail "e"
     refine CallS.of (CallP.joinS (Nat.le_trans hjl (by decide)) ?_)
     fail "e"
     refine SubS.of (SubP.dict (p := .str (S t.end_)) dget_tab0 ?_)
     have hel := end_len htm
     refine BinP.addSL (by exact Nat.le_trans (Nat.add_le_add (by first | assumption | exact Nat.le_of_eq (by assumption) | exact Nat.le_refl _) (by first | assumption | exact Nat.le_of_eq (by assumption) | exact Nat.le_refl _)) (by decide)) ?_
     refine kk' _ _ ⟨by fail "look", ?_⟩
     rw [List.take_add_one, et, List.map_append]
     show _ = _ ++ [PV.str (S (tabTxt l t))]
     unfold tabTxt; rw [List.flatMap_def]
  ·intro σ' acc oI; refine o0_2 oI fun k1 zb => ?_; clear oI; obtain rfl := zb
   rw [List.length_map, List.take_length]
   intro c2
   rw [if_pos rfl]
   have hc1 : ((l.flatMap (spl [(34, [34, 34])])).length ≤ 30) := by
    rw [← dblq_spl]; exact rep_le (by decide) hl (by decide)
   have hid : l.flatMap (spl []) = l := by
    have : spl [] = fun c => [c] := by funext c; rfl
    rw [this]; simp
   have htl := tailN_len (d.getD 6 0)
   rw [show (tabs (d.getD 6 0)).map (fun t => PV.str (S (tabTxt l t))) = [.str (S (l.flatMap (spl []) ++ [])), .str (S (l.flatMap (spl [(34, [34, 34])]) ++ 34 :: tailN (d.getD 6 0))), .str (S (l.flatMap (spl []) ++ [58])), .str (S (l.flatMap (spl m3) ++ lit "</d>")), .str (S (l.flatMap (spl (m4 (d.getD 6 0))) ++ [34])), .str (S (l.flatMap (spl []) ++ [13, 10]))] from rfl, hid, List.append_nil]
   rw [← dblq_spl, ← escC_spl hsig, ← escF_spl hsig]
   fail "e"
   refine Ev.borrowL (by fail "look") ?_
   fail "e"
   refine SubS.list (x := "texts") (by fail "look") (by decide) (by decide) (by rfl) ?_
   have hdl : (dblq l).length ≤ 30 := by rw [dblq_spl]; exact hc1
   refine BinP.addSL (by
     rw [List.length_append, List.length_cons]; have : (lit "257 \"").length = 5 := by decide
     omega) ?_
   fail "e"
   refine Ev.borrowL (by fail "look") ?_
   fail "e"
   refine SetS.list (x := "texts") (k := 1) (by fail "look") (by simp) (by decide) ?_
   fail "e"
   refine Ev.borrowL (by fail "look") ?_
   fail "e"
   refine SubS.list (x := "texts") (by fail "look") (by decide) (by decide) (by rfl) ?_
   fail "e"
   refine SubS.of (SubP.list (p := .int ((d.getD i 0 : Nat) : Int)) (Int.natCast_nonneg _) (by exact Om.castLtEq (by assumption) (by assumption) (by decide)) (by rw [Int.toNat_natCast]; exact nums_get (by exact Om.ltEqLe' (by assumption) (by assumption) (by assumption) (by decide))) ?_)
   fail "e"
   have h40 := Nat.mod_lt (d.getD i 0 / 5) (show 0 < 40 by decide)
   refine CallS.of (CallP.strL (Nat.lt_of_le_of_lt (Nat.log2_le_self _) (by exact Om.h40n (by assumption))) ?_)
   have hml := int_len h40
   refine BinP.addSL (by rw [List.length_append, List.length_singleton]; exact Nat.le_trans (Nat.add_le_add (Nat.add_le_add (by first | assumption | exact Nat.le_of_eq (by assumption) | exact Nat.le_refl _) (by first | assumption | exact Nat.le_of_eq (by assumption) | exact Nat.le_refl _)) (by first | assumption | exact Nat.le_of_eq (by assumption) | exact Nat.le_refl _)) (by decide)) ?_
   fail "e"
   refine BinP.addSL (by
     rw [List.length_append, List.length_append, List.length_singleton]; have : (lit "(f)").length = 3 := by decide
     exact Nat.le_trans (Nat.add_le_add (Nat.add_le_add (Nat.add_le_add (by first | assumption | exact Nat.le_of_eq (by assumption) | exact Nat.le_refl _) (by first | assumption | exact Nat.le_of_eq (by assumption) | exact Nat.le_refl _)) (by first | assumption | exact Nat.le_of_eq (by assumption) | exact Nat.le_refl _)) (by first | assumption | exact Nat.le_of_eq (by assumption) | exact Nat.le_refl _)) (by decide)) ?_
   fail "e"
   refine Ev.borrowL (by fail "look") ?_
   fail "e"
   refine SetS.list (x := "texts") (k := 2) (by fail "look") (by simp) (by decide) ?_
   fail "e"
   refine SubS.of (SubP.cutS (lo := none) (hi := some 1) (by with_reducible exact Nat.le_trans (by assumption) (by decide)) ?_)
   fail "e"
   have hl128 : ∀ x ∈ l, x < 128 := fun x hx => (c14_lt x (hsig x hx)).1
   have hrow : wrows d ns (i + 1) = wrows d ns i ++ [wrow d i l] := by rw [wrows, wrows, List.range_succ, List.map_append, ← hnl]; rfl
   by_cases hh : l.head? = some 46
   ·rw [cut1, if_pos hh, if_pos (by rfl)]
    fail "e"
    refine Ev.borrowL (by fail "look") ?_
    fail "e"
    refine SubS.list (x := "texts") (by fail "look") (by decide) (by decide) (by rfl) ?_
    refine BinP.addSL (by
      rw [List.length_append]; have : (lit ".").length = 1 := by decide
      show 1 + (l.length + 2) ≤ _; exact Nat.le_trans (Nat.add_le_add (by first | assumption | exact Nat.le_of_eq (by assumption) | exact Nat.le_refl _) (Nat.add_le_add (by first | assumption | exact Nat.le_of_eq (by assumption) | exact Nat.le_refl _) (by first | assumption | exact Nat.le_of_eq (by assumption) | exact Nat.le_refl _))) (by decide)) ?_
    fail "e"
    refine ⟨_, MethS.of (MethT.str F.slot_str_encode F.type_str_encode), KeepOk.builtin, ?_⟩
    fail "e"
    refine CallS.of (CallP.encode (l := 46 :: (l ++ [13, 10])) (fun x hx => by
     rcases List.mem_cons.mp hx with h | h
     ·rw [h]; decide
     rcases List.mem_append.mp h with h | h
     ·exact hl128 x h
     ·simp at h; omega) (by rw [List.length_cons, List.length_append]; show l.length + 2 + 1 ≤ _; exact Nat.le_trans (Nat.add_le_add (Nat.add_le_add (by first | assumption | exact Nat.le_of_eq (by assumption) | exact Nat.le_refl _) (by first | assumption | exact Nat.le_of_eq (by assumption) | exact Nat.le_refl _)) (by first | assumption | exact Nat.le_of_eq (by assumption) | exact Nat.le_refl _)) (by decide)) ?_)
    fail "e"
    refine Ev.borrowL (by fail "look") ?_
    fail "e"
    refine SetS.list (x := "texts") (k := 5) (by fail "look") (by simp) (by decide) ?_
    fail "e"
    refine Ev.borrowL (by fail "look") ⟨_, MethS.list (x := "spelled") (by fail "look") F.slot_list_append F.type_list_append, KeepOk.builtin, ?_⟩
    fail "e"
    refine Ev.own (by fail "look") rfl ?_
    fail "e"
    refine CallS.append (x := "spelled") (by fail "look") (by rw [wrows, List.length_map, List.length_range]; exact Nat.le_trans (by exact Nat.le_of_lt (Om.ltEqLe (by assumption) (by assumption) (by decide)) : i ≤ 64) (by decide)) ?_
    fail "e"
    refine kk _ ⟨by fail "look", by fail "look", ?_⟩
    have e : wrow d i l = .list [.str (S l), .str (S (lit "257 \"" ++ (dblq l ++ 34 :: tailN (d.getD 6 0)))), .str (S (l ++ [58] ++ intL (((d.getD i 0 / 5 % 40 : Nat) : Int) - 20) ++ lit "(f)")),
     .str (S (escC l ++ lit "</d>")), .str (S (escF (d.getD 6 0) l ++ [34])), .bytes (Re.Bs (46 :: (l ++ [13, 10])))] := by
     unfold wrow reply dotted
     rw [if_pos hh, List.append_assoc, List.append_assoc]; rfl
    rw [hrow, e]
    fail "look"
   ·rw [cut1, if_neg hh, if_neg (by decide)]
    fail "e"
    refine Ev.borrowL (by fail "look") ?_
    fail "e"
    refine SubS.list (x := "texts") (by fail "look") (by decide) (by decide) (by rfl) ?_
    refine BinP.addSL (by
      rw [List.length_append]; have : (lit "").length = 0 := by decide
      show 0 + (l.length + 2) ≤ _; exact Nat.le_trans (Nat.add_le_add (by first | assumption | exact Nat.le_of_eq (by assumption) | exact Nat.le_refl _) (Nat.add_le_add (by first | assumption | exact Nat.le_of_eq (by assumption) | exact Nat.le_refl _) (by first | assumption | exact Nat.le_of_eq (by assumption) | exact Nat.le_refl _))) (by decide)) ?_
    fail "e"
    refine ⟨_, MethS.of (MethT.str F.slot_str_encode F.type_str_encode), KeepOk.builtin, ?_⟩
    fail "e"
    refine CallS.of (CallP.encode (l := l ++ [13, 10]) (fun x hx => by
     rcases List.mem_append.mp hx with h | h
     ·exact hl128 x h
     ·simp at h; omega) (by rw [List.length_append]; show l.length + 2 ≤ _; exact Nat.le_trans (Nat.add_le_add_right (by assumption) _) (by decide)) ?_)
    fail "e"
    refine Ev.borrowL (by fail "look") ?_
    fail "e"
    refine SetS.list (x := "texts") (k := 5) (by fail "look") (by simp) (by decide) ?_
    fail "e"
    refine Ev.borrowL (by fail "look") ⟨_, MethS.list (x := "spelled") (by fail "look") F.slot_list_append F.type_list_append, KeepOk.builtin, ?_⟩
    fail "e"
    refine Ev.own (by fail "look") rfl ?_
    fail "e"
    refine CallS.append (x := "spelled") (by fail "look") (by rw [wrows, List.length_map, List.length_range]; exact Nat.le_trans (by exact Nat.le_of_lt (Om.ltEqLe (by assumption) (by assumption) (by decide)) : i ≤ 64) (by decide)) ?_
    fail "e"
    refine kk _ ⟨by fail "look", by fail "look", ?_⟩
    have e : wrow d i l = .list [.str (S l), .str (S (lit "257 \"" ++ (dblq l ++ 34 :: tailN (d.getD 6 0)))), .str (S (l ++ [58] ++ intL (((d.getD i 0 / 5 % 40 : Nat) : Int) - 20) ++ lit "(f)")),
     .str (S (escC l ++ lit "</d>")), .str (S (escF (d.getD 6 0) l ++ [34])), .bytes (Re.Bs (l ++ [13, 10]))] := by
     unfold wrow reply dotted
     rw [if_neg hh, List.append_assoc, List.append_assoc]; rfl
    rw [hrow, e]
    fail "look"
 ·rintro σ ⟨g1, g2, g3⟩
  rw [show (enumPV (txs ns)).length = 6 by simp [enumPV, txs, hn]] at g3
  fail "e"
  refine Ev.own (by fail "look") rfl ?_
  exact h
end
section
variable {W : Wd} {n : Nat} {env : Env} {wr : List Str} {σ : Sto}
inductive FnCE (W : Wd) (i : Nat) (f : Addr) : Prop where
 | mk : ∀ o name qual kV doc pm an cdv ct, W.h₀.get? f = some o → o.data = .func (fnOf name qual (fnA (top i)) (fnB (top i)) (fnS (top i)) .none kV doc pm an cdv ct) → W.h₀.CodeRec cdv qual → W.Code cdv → FnCE W i f
structure FnC (W : Wd) (x : Str) (i : Nat) (f : Addr) : Prop where
 at_ : W.mg x = some (.ref f)
 obj : FnCE W i f
theorem FnC.toFnAt {x : Str} {i : Nat} {f : Addr} (h : FnC W x i f) : FnAt W x i f :=
 by obtain ⟨o, name, qual, kV, doc, pm, an, cdv, ct, e, d, c, _⟩ := h.obj; exact ⟨⟨⟨o, name, qual, kV, doc, pm, an, cdv, ct, e, d, c⟩⟩, h.at_⟩
theorem CallP.obC {x : Str} {i : Nat} {f : Addr} {ps : List PV} {Ψ : PV → Prop} (hf : FnC W x i f) (xs : List Str) (hb : Binds (top i) xs)
  (h : ∀ qual L cdv, W.Code cdv → Ex W n (envF qual (fnS (top i)) L f cdv) (cellNames (fnS (top i))) (fnB (top i)) (xs.zip (ps.map .fz)) (retIs Ψ))
  (hlen : xs.length = ps.length := by with_unfolding_all rfl) (hnd : xs.Nodup := by decide)
  (hk : ∀ x ∈ xs, (fnS (top i)).names.lookup x = some .local ∨ (fnS (top i)).names.lookup x = some .cell := by decide)
  (hcells : ∀ x ∈ cellNames (fnS (top i)), (fnS (top i)).names.lookup x = some .cell := by decide)
  (hco : (fnS (top i)).isCoroutine = false := by with_unfolding_all rfl) (hgen : (fnS (top i)).isGenerator = false := by with_unfolding_all rfl) (hkf : (fnS (top i)).kind = .function := by with_unfolding_all rfl) : CallP W (n + 1) (.val (.ref f)) ps Ψ := by
 obtain ⟨o, name, qual, kV, doc, pm, an, cdv, ct, e, d, c, q⟩ := hf.obj
 exact CallP.fn e d c (fun vals hv => hb name qual kV doc pm an cdv ct vals (by rw [hv, hlen])) hlen hnd hk hcells (fun L => h qual L cdv q) hco hgen hkf
def cnt (a b : Int) : PV := .tuple [.int a, .int b]
def cadd (es : List (Str × PV)) (k : Str) (a b : Int) : List (Str × PV) := dput es k (match dget es k with
 | some (.tuple [.int c, .int d]) => cnt (a + c) (b + d)
 | _ => cnt a b)
theorem binds5 : Binds (top 5) ["target", "source"] := fun name qual kV doc pm an cdv ct vals hv => by
 refine o2_1 (list2 hv) fun _ _ zc => ?_; obtain rfl := zc; rfl
theorem callers_ok {f bm : Addr} {ob : Obj} (hf : FnC W "add_callers" 5 f) (hT : W.Top "tuple" (.type "tuple")) (hZ : W.Top "zip" (.type "zip")) (hI : W.Top "isinstance" (.builtin "isinstance")) (hB : BMod W.h₀ mainGlobals W.mg bm ob)
  {es : List (Str × PV)} {k : Str} {a b : Int} (hn : (es.map (·.1)).Nodup) (hv : ∀ e ∈ es, ∃ c d : Int, e.2 = cnt c d) (hl : es.length ≤ 64) {Ψ : PV → Prop} (h : Ψ (.dict (cadd es k a b))) :
  CallP W (n + 1) (.val (.ref f)) [.dict es, .dict [(k, cnt a b)]] Ψ := by
 refine CallP.obC hf ["target", "source"] binds5 fun qual L cdv hC => ?_
 refine Ex.cons ?_
 fail "e"
 intro c₁
 fail "ev"
 with_reducible refine Ex1.forTI ?_
 with_reducible refine EvT'.of ?_
 fail "e"
 refine ⟨_, MethS.of (MethT.dict F.slot_dict_items F.type_dict_items), KeepOk.builtin, ?_⟩
 fail "e"
 refine CallS.of (CallP.items ⟨_, IterTP.items, ?_⟩)
 refine forT.inv (fun i σ => List.lookup (Str.ofString "source") σ = some (SV.fz (.dict [(k, cnt a b)])) ∧ List.lookup (Str.ofString "new_callers") σ = some (SV.od c₁ (es.take i))) ⟨by fail "look", by fail "look"⟩ ?_ ?_
 ·intro i p σ hp oI Φ kk; refine o0_2 oI fun g1 g2 => ?_; clear oI
  rw [List.getElem?_map] at hp
  cases ee : es[i]? with
  | none => rw [ee] at hp; cases hp
  | some e =>
   rw [ee] at hp
   have hp := (Option.some.inj hp).symm
   subst hp
   have hi := (List.getElem?_eq_some_iff.mp ee).1
   refine ⟨rfl, ?_⟩
   fail "e"
   refine Ev.borrowD (by fail "look") ?_
   fail "e"
   refine SetS.dict (x := "new_callers") (by fail "look") (by rw [List.length_take]; exact Nat.le_trans (by with_reducible exact Nat.le_trans (Nat.min_le_right _ _) (Nat.le_trans (by assumption) (by decide)) : min i es.length ≤ 64) (by decide)) ?_
   fail "e"
   refine kk _ ⟨by fail "look", ?_⟩
   have hnew : e.1 ∉ (es.take i).map (·.1) := fun q => by
    have h1 : es.map (·.1) = (es.take i).map (·.1) ++ (es.drop i).map (·.1) := by rw [← List.map_append, List.take_append_drop]
    have hn' := hn
    rw [h1, List.nodup_append] at hn'
    exact hn'.2.2 _ q _ (List.mem_map.mpr (i1_2 e (List.mem_of_getElem? (i := 0) (by rw [List.getElem?_drop]; exact ee)) rfl)) rfl
   rw [show es.take (i + 1) = dput (es.take i) e.1 e.2 by rw [dput_new hnew, List.take_add_one, ee]; rfl]
   fail "look"
 ·rintro σ ⟨g1, g2⟩
  rw [List.length_map, List.take_length] at g2
  fail "ev"
  with_reducible refine Ex1.forTI ?_
  with_reducible refine EvT'.of ?_
  fail "e"
  refine ⟨_, MethS.of (MethT.dict F.slot_dict_items F.type_dict_items), KeepOk.builtin, ?_⟩
  fail "e"
  refine CallS.of (CallP.items ⟨_, IterTP.items, ?_⟩)
  rw [List.map_cons, List.map_nil]
  refine forT.cons ?_
  dsimp only
  iterate 7 fail "ev"
  refine Tst.cmpS ?_
  fail "e"
  refine Ev.borrowD (by fail "look") (CmpS.inD (x := "new_callers") (by fail "look") (.ite ?_))
  cases eg : dget es k with
  | none =>
   refine iteN (by decide) ?_
   fail "e"
   refine Ev.borrowD (by fail "look") ?_
   fail "e"
   refine SetS.dict (x := "new_callers") (by fail "look") (Nat.le_trans hl (by decide)) ?_
   fail "e"
   refine forT.nil ?_
   fail "e"
   refine Ev.own (by fail "look") rfl ?_
   have e : cadd es k a b = dput es k (cnt a b) := by unfold cadd; rw [eg]
   rw [e] at h
   exact h
  | some v =>
   obtain ⟨c, d, rfl⟩ : ∃ c d : Int, v = cnt c d := by
    unfold dget at eg
    refine o1_2 (Option.map_eq_some_iff.mp eg) fun x hx zc => ?_; obtain rfl := zc
    exact hv x (List.mem_of_find?_eq_some hx)
   refine iteP (by rfl) ?_
   iterate 2 fail "ev"
   refine Tst.val ?_
   fail "e"
   refine CallS.of (CallP.isTup (i1_2 true TruP.bool ?_))
   refine iteP rfl ?_
   iterate 2 fail "ev"
   refine Ev.tupZip hT hZ hC hB ?_
   fail "e"
   refine Ev.borrowD (by fail "look") ?_
   fail "e"
   refine SubS.dict (x := "new_callers") (by fail "look") eg (i4_3 a b c d rfl rfl ?_)
   fail "e"
   refine Ev.borrowD (by fail "look") ?_
   fail "e"
   refine SetS.dict (x := "new_callers") (by fail "look") (Nat.le_trans hl (by decide)) ?_
   fail "e"
   refine forT.nil ?_
   fail "e"
   refine Ev.own (by fail "look") rfl ?_
   have e : cadd es k a b = dput es k (cnt (a + c) (b + d)) := by unfold cadd; rw [eg]; rfl
   rw [e] at h
   exact h
end
section
variable {W : Wd} {n : Nat} {env : Env} {wr : List Str} {σ : Sto}
theorem binds4 : Binds (top 4) ["target", "source"] := fun name qual kV doc pm an cdv ct vals hv => by
 refine o2_1 (list2 hv) fun _ _ zc => ?_; obtain rfl := zc; rfl
theorem stats_ok {f fc bm : Addr} {ob : Obj} (hf : FnAt W "add_func_stats" 4 f) (hfc : FnC W "add_callers" 5 fc) (hT : W.Top "tuple" (.type "tuple")) (hZ : W.Top "zip" (.type "zip")) (hI : W.Top "isinstance" (.builtin "isinstance")) (hB : BMod W.h₀ mainGlobals W.mg bm ob)
  {es : List (Str × PV)} {k : Str} {a b : Int} {c s t q c' s' t' q' : Int} (hn : (es.map (·.1)).Nodup) (hv : ∀ e ∈ es, ∃ c d : Int, e.2 = cnt c d) (hl : es.length ≤ 64) {Ψ : PV → Prop} (h : Ψ (.tuple [.int (c + c'), .int (s + s'), .int (t + t'), .int (q + q'), .dict (cadd es k a b)])) :
  CallP W (n + 2) (.val (.ref f)) [.tuple [.int c', .int s', .int t', .int q', .dict es], .tuple [.int c, .int s, .int t, .int q, .dict [(k, cnt a b)]]] Ψ := by
 have hfcA := hfc.toFnAt
 refine CallP.ob hf.toFnOb ["target", "source"] binds4 fun qual L cdv => ?_
 refine Ex.cons ?_
 fail "e"
 refine Asg.tup (by rfl) ?_
 fail "e"
 refine Asg.tup (by rfl) ?_
 fail "e"
 refine CallS.of (callers_ok hfc hT hZ hI hB hn hv hl ?_)
 fail "e"
 exact h
end
section
variable {W : Wd} {n : Nat} {env : Env} {wr : List Str} {σ : Sto}
theorem dget_S {α : Type} {g : α → PV} {m : List (List Nat × α)} {k : List Nat} : dget (m.map fun x => (S x.1, g x.2)) (S k) = (kget m k).map g := by
 induction m with
 | nil => rfl
 | cons e m ih =>
  have e1 : ∀ (x : Str × PV) l, dget (x :: l) (S k) = if x.1 = S k then some x.2 else dget l (S k) := fun x l => by
   unfold dget; rw [List.find?_cons]
   by_cases h : x.1 = S k
   ·simp [h]
   ·simp [h]
  rw [List.map_cons, e1, kget_cons, ih]
  by_cases h : e.1 = k
  ·simp [h]
  ·have : ¬ S e.1 = S k := fun q => h (S_inj q)
   simp [h, this]
theorem dput_S {α : Type} {g : α → PV} {m : List (List Nat × α)} {k : List Nat} {v : α} : dput (m.map fun x => (S x.1, g x.2)) (S k) (g v) = (kput m k v).map fun x => (S x.1, g x.2) := by
 have he : ∀ e : List Nat × α, (S e.1 = S k) ↔ e.1 = k := fun e => ⟨fun q => S_inj q, fun q => by rw [q]⟩
 unfold dput kput
 have : (m.map fun x => (S x.1, g x.2)).any (fun e => e.1 = S k) = m.any (fun e => e.1 = k) := by
  rw [List.any_map]; congr 1; funext e; simp [he]
 rw [this]
 split
 ·rw [List.map_map, List.map_map]
  refine List.map_congr_left fun e _ => ?_
  simp only [Function.comp, he]
  split <;> rfl
 ·simp
def cntN (y : Nat × Nat) : PV := cnt (y.1 : Int) (y.2 : Int)
def partsPV (ps : List (List Nat × (Nat × Nat))) : List (Str × PV) := ps.map fun x => (S x.1, cntN x.2)
def entPV (e : Ent) : PV := .tuple [.int (e.c : Int), .int (e.s : Int), .int (e.t : Int), .int (e.q : Int), .dict (partsPV e.ps)]
def profPV (m : Prof) : List (Str × PV) := m.map fun x => (S x.1, entPV x.2)
theorem cadd_S {ps : List (List Nat × (Nat × Nat))} {k : List Nat} {a b : Nat} : cadd (partsPV ps) (S k) (a : Int) (b : Int) = partsPV (padd ps k a b) := by
 unfold cadd padd partsPV
 rw [dget_S (g := cntN)]
 cases kget ps k with
 | none => exact dput_S (g := cntN) (v := (a, b))
 | some v =>
  have := dput_S (g := cntN) (m := ps) (k := k) (v := (a + v.1, b + v.2))
  rw [← this]
  show dput _ _ (cnt ((a : Int) + (v.1 : Int)) ((b : Int) + (v.2 : Int))) = dput _ _ (cnt (((a + v.1 : Nat) : Int)) ((b + v.2 : Nat) : Int))
  rw [Int.natCast_add, Int.natCast_add]
theorem mput_one (k : Str) (p : PV) : mput [(k, p)] = [(k, p)] := rfl
structure PGood (b : Nat) (m : Prof) : Prop where
 len : m.length ≤ b
 ps : ∀ x ∈ m, (x.2.ps.map (·.1)).Nodup ∧ x.2.ps.length ≤ b
theorem kput_len {α : Type} {m : List (List Nat × α)} {k : List Nat} {v : α} : (kput m k v).length ≤ m.length + 1 := by
 unfold kput; split <;> simp
theorem kput_mem {α : Type} {m : List (List Nat × α)} {k : List Nat} {v : α} {x : List Nat × α} (h : x ∈ kput m k v) : x ∈ m ∨ x.2 = v := by
 unfold kput at h
 split at h
 ·refine o1_2 (List.mem_map.mp h) fun e he q => ?_
  split at q
  ·right; rw [← q]
  ·left; rw [← q]; exact he
 ·rcases List.mem_append.mp h with h | h
  ·exact .inl h
  ·right; rw [List.mem_singleton.mp h]
theorem PGood.old {b : Nat} {m : Prof} (h : PGood b m) (k : List Nat) : ((((kget m k).getD .zero).ps.map (·.1)).Nodup ∧ ((kget m k).getD .zero).ps.length ≤ b) := by
 cases e : kget m k with
 | none => exact ⟨List.nodup_nil, Nat.zero_le _⟩
 | some v =>
  unfold kget at e
  refine o1_2 (Option.map_eq_some_iff.mp e) fun x hx zc => ?_; obtain rfl := zc
  exact h.ps x (List.mem_of_find?_eq_some hx)
theorem PGood.step {b : Nat} {m : Prof} (h : PGood b m) (l : List Nat) (tick d : Nat) : PGood (b + 1) (step1 l tick m d) := by
 refine o0_2 (h.old (l.take d)) fun h1 h2 => ?_
 refine ⟨Nat.le_trans kput_len (by have := h.len; omega), fun x hx => ?_⟩
 rcases kput_mem hx with hx | hx
 ·refine o0_2 (h.ps x hx) fun a1 a2 => ?_; exact ⟨a1, by omega⟩
 ·rw [hx]
  exact ⟨kput_nodup h1, Nat.le_trans kput_len (by omega)⟩
theorem binds30 : Binds (top 30) ["names", "drawn"] := fun name qual kV doc pm an cdv ct vals hv => by
 refine o2_1 (list2 hv) fun _ _ zc => ?_; obtain rfl := zc; rfl
def tickN (d : List Nat) (k : Nat) : Nat := d.getD k 0 / 18 % 8
theorem rangePV_len (a : Int) (m : Nat) : (rangePV a m).length = m := by simp [rangePV]
theorem range_get {a : Int} {m j : Nat} {p : PV} (h : (rangePV a m)[j]? = some p) : j < m ∧ p = .int (a + (j : Int)) := by
 have hj : j < m := by have := (List.getElem?_eq_some_iff.mp h).1; rwa [rangePV_len] at this
 refine ⟨hj, ?_⟩
 simp [rangePV, hj] at h
 exact h.symm
theorem cut_item (l : List Nat) (j : Nat) : cut l (some j) (some (j + 1)) = itemAt l j := by
 unfold cut itemAt
 rw [Option.getD_some, Option.getD_some, List.drop_take]; simp
theorem nodup_keys {α : Type} {g : List Nat × α → Str × PV} {m : List (List Nat × α)} (h : (m.map (·.1)).Nodup) (hg : ∀ x, (g x).1 = S x.1 := by intro _; rfl) : (m.map ((fun x : Str × PV => x.1) ∘ g)).Nodup := by
 have : m.map ((fun x : Str × PV => x.1) ∘ g) = (m.map (·.1)).map S := by rw [List.map_map]; exact List.map_congr_left fun x _ => hg x
 rw [this]; exact nodup_S h
theorem profile_ok {f fs fc bm : Addr} {ob : Obj} (hf : FnAt W "_law_profile" 30 f) (hfs : FnAt W "add_func_stats" 4 fs) (hfc : FnC W "add_callers" 5 fc) (hT : W.Top "tuple" (.type "tuple")) (hZ : W.Top "zip" (.type "zip")) (hI : W.Top "isinstance" (.builtin "isinstance")) (hB : BMod W.h₀ mainGlobals W.mg bm ob)
  (hen : W.Top "enumerate" (.type "enumerate")) (hle : W.Top "len" (.builtin "len")) (hra : W.Top "range" (.type "range"))
  {sig d : List Nat} {ns : List (List Nat)} (hd : d.length = 8) (hn : ns.length = 6) (hN : NamesOk sig ns) {Ψ : PV → Prop} (h : Ψ (.dict (profPV (prof ns (tickN d) 6)))) :
  CallP W (n + 3) (.val (.ref f)) [.list (txs ns), nums d] Ψ := by
 have hlen : ∀ k, (ns.getD k []).length ≤ 5 := name_len hN hn
 refine CallP.ob hf.toFnOb ["names", "drawn"] binds30 fun qual L cdv => ?_
 refine Ex.cons ?_
 fail "e"
 intro c₁
 fail "ev"
 with_reducible refine Ex1.forTI ?_
 refine EvT'.enumerate (by rfl) (by rfl) hen ?_
 fail "e"
 refine forT.inv (fun i σ => List.lookup (Str.ofString "drawn") σ = some (SV.fz (nums d)) ∧ List.lookup (Str.ofString "profile") σ = some (SV.od c₁ (profPV (prof ns (tickN d) i))) ∧ PGood (6 * i) (prof ns (tickN d) i)) ⟨by fail "look", by fail "look", ⟨Nat.le_refl _, fun x hx => by cases hx⟩⟩ ?_ ?_
 ·intro i p σ hp oI Φ kk; refine o0_3 oI fun g1 g2 g3 => ?_; clear oI
  refine o0_2 (enum_get hp) fun hi zb => ?_; obtain rfl := zb
  refine ⟨rfl, ?_⟩
  have hl := hlen i
  have hpr : prof ns (tickN d) (i + 1) = stepN (prof ns (tickN d) i) (ns.getD i []) (tickN d i) := by unfold prof; rw [List.range_succ, List.foldl_append]; rfl
  rw [hpr] at kk
  generalize hnl : ns.getD i [] = l at hl kk
  fail "e"
  refine SubS.of (SubP.list (p := .int ((d.getD i 0 : Nat) : Int)) (Int.natCast_nonneg _) (by exact Om.castLtEq (by assumption) (by assumption) (by decide)) (by rw [Int.toNat_natCast]; exact nums_get (by exact Om.ltEqLe' (by assumption) (by assumption) (by assumption) (by decide))) ?_)
  fail "e"
  with_reducible refine Ex1.forI ?_
  with_reducible refine EvI.of ?_
  fail "e"
  refine CallS.of (CallP.lenS (by rw [S_len]; with_reducible exact Om.castLt' (by assumption) (by decide)) ?_)
  rw [S_len]
  fail "e"
  refine CallS.of (CallP.range1 ⟨_, IterP.range (m := l.length + 1) (by decide) (by decide) (by with_reducible exact Om.negLe (by decide)) (by omega) (by rfl), ?_⟩)
  generalize hm : prof ns (tickN d) i = m at g2 g3 kk
  generalize htk : tickN d i = tk at kk
  have htk' : d.getD i 0 / 18 % 8 = tk := htk
  rw [htk']
  refine forL.inv (fun j σ' => List.lookup (Str.ofString "drawn") σ' = some (SV.fz (nums d)) ∧ List.lookup (Str.ofString "name") σ' = some (SV.fz (.str (S l))) ∧ List.lookup (Str.ofString "ticks") σ' = some (SV.fz (.int (tk : Int))) ∧
   List.lookup (Str.ofString "profile") σ' = some (SV.od c₁ (profPV ((List.range j).foldl (step1 l tk) m))) ∧ PGood (6 * i + j) ((List.range j).foldl (step1 l tk) m)) ⟨by fail "look", by fail "look", by fail "look", by fail "look", g3⟩ ?_ ?_
  ·intro j p σ' hp oI Φ' kk'; refine o0_5 oI fun k1 k2 k3 k4 k5 => ?_; clear oI
   refine o0_2 (range_get hp) fun hj zb => ?_; obtain rfl := zb
   rw [show (0 : Int) + (j : Int) = (j : Int) from Int.zero_add _]
   have hst : (List.range (j + 1)).foldl (step1 l tk) m = step1 l tk ((List.range j).foldl (step1 l tk) m) j := by rw [List.range_succ, List.foldl_append]; rfl
   rw [hst] at kk'
   generalize (List.range j).foldl (step1 l tk) m = mj at k4 k5 kk'
   have hit : cut l (some j) (some (j + 1)) = itemAt l j := cut_item l j
   have hto : cut l none (some j) = l.take j := by unfold cut; simp
   fail "e"
   refine SubS.of (SubP.cutS (lo := some j) (hi := some (j + 1)) (by with_reducible exact Nat.le_trans (by assumption) (by decide)) ?_)
   rw [hit]
   fail "e"
   refine Ev.borrowD (by fail "look") ⟨_, MethS.dict (x := "profile") (by fail "look") F.slot_dict_get F.type_dict_get, KeepOk.builtin, ?_⟩
   fail "e"
   refine SubS.of (SubP.cutS (lo := none) (hi := some j) (by with_reducible exact Nat.le_trans (by assumption) (by decide)) ?_)
   rw [hto]
   fail "e"
   refine CallS.get2 (x := "profile") (by fail "look") ?_
   have hold : (dget (profPV mj) (S (l.take j))).getD (.tuple [.int 0, .int 0, .int 0, .int 0, .dict []]) = entPV ((kget mj (l.take j)).getD .zero) := by
    unfold profPV
    rw [dget_S (g := entPV)]
    cases kget mj (l.take j) <;> rfl
   rw [hold]
   refine o0_2 (k5.old (l.take j)) fun ho1 ho2 => ?_
   generalize he : (kget mj (l.take j)).getD .zero = e at ho1 ho2
   fail "e"
   refine CallS.of (CallP.lenS (by rw [S_len]; with_reducible exact Om.castLt' (by assumption) (by decide)) ?_)
   rw [S_len]
   fail "e"
   by_cases hz : itemAt l j = []
   ·have hz' : (itemAt l j == lit "") = true := by rw [hz]; rfl
    refine iteT (hz') ?_
    fail "e"
    rw [mput_one]
    fail "e"
    refine CallS.of (stats_ok hfs hfc hT hZ hI hB (es := partsPV e.ps) (k := S (itemAt l j)) (a := 1) (b := (tk : Int)) (c := 1) (s := (l.length : Int) - (j : Int)) (t := (tk : Int)) (q := (tk : Int)) (c' := (e.c : Int)) (s' := (e.s : Int)) (t' := (e.t : Int)) (q' := (e.q : Int))
     (by rw [partsPV, List.map_map]; exact nodup_keys ho1) (fun x hx => by refine o1_2 (List.mem_map.mp hx) fun y _ zc => ?_; obtain rfl := zc; exact (i2_1 _ _ rfl)) (by rw [partsPV, List.length_map]; exact Om.bnd13 (by assumption) (by assumption) (by assumption) (by assumption) (by assumption)) ?_)
    fail "e"
    refine Ev.borrowD (by fail "look") ?_
    fail "e"
    refine SubS.of (SubP.cutS (lo := none) (hi := some j) (by with_reducible exact Nat.le_trans (by assumption) (by decide)) ?_)
    rw [hto]
    fail "e"
    refine SetS.dict (x := "profile") (by fail "look") (by rw [profPV, List.length_map]; have := k5.len; exact Nat.le_trans (by exact Om.bnd13 (by assumption) (by assumption) (by assumption) (by assumption) (by assumption) : _ ≤ 64) (by decide)) ?_
    fail "e"
    refine kk' _ ⟨by fail "look", by fail "look", by fail "look", ?_, k5.step l tk j⟩
    have hent : PV.tuple [.int (1 + (e.c : Int)), .int ((l.length : Int) - (j : Int) + (e.s : Int)), .int ((tk : Int) + (e.t : Int)), .int ((tk : Int) + (e.q : Int)), .dict (cadd (partsPV e.ps) (S (itemAt l j)) 1 (tk : Int))] = entPV (e.add l j tk) := by
     have h1 := cadd_S (ps := e.ps) (k := itemAt l j) (a := 1) (b := tk)
     have h2 : (l.length : Int) - (j : Int) = ((l.length - j : Nat) : Int) := (Int.ofNat_sub (Nat.le_of_lt_succ hj)).symm
     unfold entPV Ent.add
     rw [if_pos hz, h2]
     simp only [Int.natCast_add]
     rw [← h1]; rfl
    rw [hent]
    rw [show profPV (step1 l tk mj j) = dput (profPV mj) (S (l.take j)) (entPV (e.add l j tk)) by unfold step1; rw [he]; exact (dput_S (g := entPV)).symm]
    fail "look"
   ·have hz' : (itemAt l j == lit "") = false := beq_eq_false_iff_ne.mpr hz
    refine iteF (hz') ?_
    fail "e"
    rw [mput_one]
    fail "e"
    refine CallS.of (stats_ok hfs hfc hT hZ hI hB (es := partsPV e.ps) (k := S (itemAt l j)) (a := 1) (b := (tk : Int)) (c := 1) (s := (l.length : Int) - (j : Int)) (t := 0) (q := (tk : Int)) (c' := (e.c : Int)) (s' := (e.s : Int)) (t' := (e.t : Int)) (q' := (e.q : Int))
     (by rw [partsPV, List.map_map]; exact nodup_keys ho1) (fun x hx => by refine o1_2 (List.mem_map.mp hx) fun y _ zc => ?_; obtain rfl := zc; exact (i2_1 _ _ rfl)) (by rw [partsPV, List.length_map]; exact Om.bnd13 (by assumption) (by assumption) (by assumption) (by assumption) (by assumption)) ?_)
    fail "e"
    refine Ev.borrowD (by fail "look") ?_
    fail "e"
    refine SubS.of (SubP.cutS (lo := none) (hi := some j) (by with_reducible exact Nat.le_trans (by assumption) (by decide)) ?_)
    rw [hto]
    fail "e"
    refine SetS.dict (x := "profile") (by fail "look") (by rw [profPV, List.length_map]; have := k5.len; exact Nat.le_trans (by exact Om.bnd13 (by assumption) (by assumption) (by assumption) (by assumption) (by assumption) : _ ≤ 64) (by decide)) ?_
    fail "e"
    refine kk' _ ⟨by fail "look", by fail "look", by fail "look", ?_, k5.step l tk j⟩
    have hent : PV.tuple [.int (1 + (e.c : Int)), .int ((l.length : Int) - (j : Int) + (e.s : Int)), .int (0 + (e.t : Int)), .int ((tk : Int) + (e.q : Int)), .dict (cadd (partsPV e.ps) (S (itemAt l j)) 1 (tk : Int))] = entPV (e.add l j tk) := by
     have h1 := cadd_S (ps := e.ps) (k := itemAt l j) (a := 1) (b := tk)
     have h2 : (l.length : Int) - (j : Int) = ((l.length - j : Nat) : Int) := (Int.ofNat_sub (Nat.le_of_lt_succ hj)).symm
     unfold entPV Ent.add
     rw [if_neg hz, h2]
     simp only [Int.natCast_add]
     rw [← h1]; rfl
    rw [hent]
    rw [show profPV (step1 l tk mj j) = dput (profPV mj) (S (l.take j)) (entPV (e.add l j tk)) by unfold step1; rw [he]; exact (dput_S (g := entPV)).symm]
    fail "look"
  ·rintro σ' ⟨k1, k2, k3, k4, k5⟩
   rw [rangePV_len] at k4 k5
   fail "e"
   exact kk _ ⟨by fail "look", by fail "look", ⟨by have := k5.len; exact Nat.le_trans this (by omega), fun x hx => by refine o0_2 (k5.ps x hx) fun a1 a2 => ?_; exact ⟨a1, by omega⟩⟩⟩
 ·rintro σ ⟨g1, g2, g3⟩
  rw [show (enumPV (txs ns)).length = 6 by simp [enumPV, txs, hn]] at g2
  fail "e"
  refine Ev.own (by fail "look") rfl ?_
  exact h
end
section
variable {W : Wd} {n : Nat} {env : Env} {wr : List Str} {σ : Sto}
theorem kget_mem {κ α : Type} [DecidableEq κ] {es : List (κ × α)} {k : κ} {v : α} (hn : (es.map (·.1)).Nodup) (h : (k, v) ∈ es) : kget es k = some v := by
 induction es with
 | nil => cases h
 | cons e es ih =>
  rw [List.map_cons, List.nodup_cons] at hn
  rw [kget_cons]
  rcases List.mem_cons.mp h with q | q
  ·subst q; rw [if_pos rfl]
  ·rw [if_neg (fun r => hn.1 (by rw [r]; exact List.mem_map.mpr (i1_2 _ q rfl))), ih hn.2 q]
theorem kput_sum {κ : Type} [DecidableEq κ] {es : List (κ × (Nat × Nat))} {k : κ} {a b c d : Nat} (hn : (es.map (·.1)).Nodup) (h : kget es k = some (c, d)) : ((kput es k (a, b + d)).map fun x => x.2.2).sum = (es.map fun x => x.2.2).sum + b := by
 induction es with
 | nil => cases h
 | cons e es ih =>
  rw [List.map_cons, List.nodup_cons] at hn
  rw [kget_cons] at h
  have hm : k ∈ (e :: es).map (·.1) := by
   rcases Classical.em (k ∈ (e :: es).map (·.1)) with q | q
   ·exact q
   ·have := kget_none.mpr q; rw [kget_cons] at this; rw [this] at h; cases h
  rw [kput_old hm, List.map_cons]
  by_cases hk : e.1 = k
  ·rw [if_pos hk] at h ⊢
   have : es.map (fun e => if e.1 = k then (e.1, (a, b + d)) else e) = es := by
    conv => rhs; rw [← List.map_id es]
    refine List.map_congr_left fun x hx => ?_
    rw [if_neg (fun q => hn.1 (by rw [hk, ← q]; exact List.mem_map.mpr (i1_2 x hx rfl)))]; rfl
   rw [this]
   have : e.2 = (c, d) := Option.some.inj h
   simp only [List.map_cons, List.sum_cons, this]
   simp only [Nat.add_comm, Nat.add_left_comm, Nat.add_assoc]
  ·rw [if_neg hk] at h ⊢
   have hm' : k ∈ es.map (·.1) := by
    rw [List.map_cons] at hm
    rcases List.mem_cons.mp hm with q | q
    ·exact absurd q.symm hk
    ·exact q
   have := ih hn.2 h
   rw [kput_old hm'] at this
   rw [List.map_cons, List.sum_cons, List.map_cons, List.sum_cons, this]; exact (Nat.add_assoc _ _ _).symm
theorem padd_sum {ps : List (List Nat × (Nat × Nat))} {k : List Nat} {a b : Nat} (hn : (ps.map (·.1)).Nodup) : ((padd ps k a b).map fun x => x.2.2).sum = (ps.map fun x => x.2.2).sum + b := by
 unfold padd
 cases h : kget ps k with
 | none =>
  rw [kput_new (kget_none.mp h)]; simp
 | some v => exact kput_sum hn (by rw [h])
theorem padd_get {ps : List (List Nat × (Nat × Nat))} {k j : List Nat} {a b : Nat} : kget (padd ps k a b) j = if j = k then some (match kget ps k with | some (c, d) => (a + c, b + d) | none => (a, b)) else kget ps j := by
 unfold padd; rw [kget_put]; try rfl
def tickOf (ps : List (List Nat × (Nat × Nat))) : Nat := ((kget ps []).map (·.2)).getD 0
def foldE (ns : List (List Nat)) (tk : Nat → Nat) (p : List Nat) (js : List Nat) : Ent := js.foldl (fun e j => e.add (ns.getD j []) p.length (tk j)) .zero
structure EntOk (e : Ent) : Prop where
 nd : (e.ps.map (·.1)).Nodup
 t : e.t = tickOf e.ps
 q : e.q = (e.ps.map fun x => x.2.2).sum
theorem EntOk.zero : EntOk .zero := ⟨List.nodup_nil, rfl, rfl⟩
theorem EntOk.add {e : Ent} (h : EntOk e) (l : List Nat) (d tick : Nat) : EntOk (e.add l d tick) := by
 refine ⟨kput_nodup h.nd, ?_, ?_⟩
 ·show (if itemAt l d = [] then tick else 0) + e.t = tickOf (padd e.ps (itemAt l d) 1 tick)
  unfold tickOf
  rw [padd_get, h.t]
  unfold tickOf
  by_cases hz : itemAt l d = []
  ·rw [if_pos hz, if_pos hz.symm, hz]
   cases kget e.ps [] with
   | none => rfl
   | some v => rfl
  ·rw [if_neg hz, if_neg (Ne.symm hz), Nat.zero_add]
 ·show tick + e.q = ((padd e.ps (itemAt l d) 1 tick).map fun x => x.2.2).sum
  rw [padd_sum h.nd, h.q, Nat.add_comm]
theorem foldE_snoc (ns : List (List Nat)) (tk : Nat → Nat) (p js : List Nat) (j : Nat) : foldE ns tk p (js ++ [j]) = (foldE ns tk p js).add (ns.getD j []) p.length (tk j) := by
 unfold foldE; rw [List.foldl_append]; rfl
theorem foldE_ok (ns : List (List Nat)) (tk : Nat → Nat) (p : List Nat) : ∀ (js : List Nat) (e : Ent), EntOk e → EntOk (js.foldl (fun e j => e.add (ns.getD j []) p.length (tk j)) e)
 | [], _, h => h
 | j :: js, e, h => foldE_ok ns tk p js _ (h.add _ _ _)
theorem foldE_c (ns : List (List Nat)) (tk : Nat → Nat) (p : List Nat) : ∀ (js : List Nat) (e : Ent), (js.foldl (fun e j => e.add (ns.getD j []) p.length (tk j)) e).c = e.c + js.length
 | [], _ => rfl
 | j :: js, e => by rw [List.foldl_cons, foldE_c]; show 1 + e.c + js.length = _; rw [List.length_cons]; simp only [Nat.add_comm, Nat.add_left_comm, Nat.add_assoc]
theorem foldE_s (ns : List (List Nat)) (tk : Nat → Nat) (p : List Nat) : ∀ (js : List Nat) (e : Ent), (js.foldl (fun e j => e.add (ns.getD j []) p.length (tk j)) e).s = e.s + (js.map fun j => (ns.getD j []).length - p.length).sum
 | [], _ => rfl
 | j :: js, e => by rw [List.foldl_cons, foldE_s, List.map_cons, List.sum_cons]; show (_ - _) + e.s + _ = _; simp only [Nat.add_comm, Nat.add_left_comm, Nat.add_assoc]
theorem entE_fold (ns : List (List Nat)) (tk : Nat → Nat) (p : List Nat) (k : Nat) : entE ns tk p k = foldE ns tk p ((List.range k).filter fun j => pre p (ns.getD j [])) := rfl
theorem binds31 : Binds (top 31) ["names", "drawn"] := fun name qual kV doc pm an cdv ct vals hv => by
 refine o2_1 (list2 hv) fun _ _ zc => ?_; obtain rfl := zc; rfl
def below (ns : List (List Nat)) (p : List Nat) (k : Nat) : List Nat := (List.range k).filter fun j => pre p (ns.getD j [])
theorem below_lt {ns : List (List Nat)} {p : List Nat} {k j : Nat} (h : j ∈ below ns p k) : j < k ∧ pre p (ns.getD j []) = true := by
 refine o0_2 (List.mem_filter.mp h) fun h1 h2 => ?_
 exact ⟨by simpa using h1, h2⟩
theorem below_succ (ns : List (List Nat)) (p : List Nat) (k : Nat) : below ns p (k + 1) = if pre p (ns.getD k []) = true then below ns p k ++ [k] else below ns p k := by
 unfold below
 rw [List.range_succ, List.filter_append]
 cases h : pre p (ns.getD k []) with
 | true => rw [if_pos rfl, List.filter_cons, if_pos (by simpa using h)]; rfl
 | false => rw [if_neg (by decide), List.filter_cons, if_neg (by simpa using h)]; simp
theorem below_len (ns : List (List Nat)) (p : List Nat) (k : Nat) : (below ns p k).length ≤ k := Nat.le_trans (List.length_filter_le _ _) (Nat.le_of_eq List.length_range)
theorem foldE_len (ns : List (List Nat)) (tk : Nat → Nat) (p : List Nat) (js : List Nat) : (foldE ns tk p js).ps.length ≤ js.length := by
 have key : ∀ (js : List Nat) (e : Ent), (js.foldl (fun e j => e.add (ns.getD j []) p.length (tk j)) e).ps.length ≤ e.ps.length + js.length := by
  intro js
  induction js with
  | nil => intro e; exact Nat.le_refl _
  | cons j js ih =>
   intro e
   have h1 := ih (e.add (ns.getD j []) p.length (tk j))
   have h2 : (e.add (ns.getD j []) p.length (tk j)).ps.length ≤ e.ps.length + 1 := kput_len
   rw [List.foldl_cons, List.length_cons]; omega
 exact Nat.le_trans (key js .zero) (Nat.le_of_eq (Nat.zero_add _))
theorem padd_has {ps : List (List Nat × (Nat × Nat))} {k j : List Nat} {a b : Nat} (h : j ∈ ps.map (·.1) ∨ j = k) : j ∈ (padd ps k a b).map (·.1) := by
 unfold padd; rw [kput_keys]
 split
 ·rename_i hk
  rcases h with h | h
  ·exact h
  ·rw [h]; exact hk
 ·rcases h with h | h
  ·exact List.mem_append_left _ h
  ·rw [h]; exact List.mem_append_right _ (List.mem_singleton.mpr rfl)
theorem foldE_has (ns : List (List Nat)) (tk : Nat → Nat) (p : List Nat) : ∀ (js : List Nat) (e : Ent) (k : List Nat), (k ∈ e.ps.map (·.1) ∨ ∃ j ∈ js, itemAt (ns.getD j []) p.length = k) → k ∈ (js.foldl (fun e j => e.add (ns.getD j []) p.length (tk j)) e).ps.map (·.1)
 | [], e, k, h => h.elim id fun zz => o1_2 zz fun j hj _ => by cases hj
 | j :: js, e, k, h => by
  rw [List.foldl_cons]
  refine foldE_has ns tk p js _ k ?_
  rcases h with h | ⟨i, hi, e1⟩
  ·exact .inl (padd_has (.inl h))
  ·rcases List.mem_cons.mp hi with q | q
   ·subst q; exact .inl (padd_has (.inr e1.symm))
   ·exact .inr (i1_2 i q e1)
theorem int_sum {α : Type} (l : List α) (f : α → Nat) : (l.map fun x => ((f x : Nat) : Int)).sum = (((l.map f).sum : Nat) : Int) := by
 induction l with
 | nil => rfl
 | cons a l ih => rw [List.map_cons, List.sum_cons, List.map_cons, List.sum_cons, ih, Int.natCast_add]
def natsPV (l : List Nat) : List PV := l.map fun (k : Nat) => .int (k : Int)
theorem nats_get {l : List Nat} {m : Nat} {q : PV} (h : (natsPV l)[m]? = some q) : ∃ j, l[m]? = some j ∧ q = .int (j : Int) := by
 unfold natsPV at h
 rw [List.getElem?_map] at h
 cases e : l[m]? with
 | none => rw [e] at h; cases h
 | some j => rw [e] at h; exact (i1_2 j rfl ((Option.some.inj h).symm))
theorem summed_ok {f : Addr} (hf : FnAt W "_law_summed" 31 f) (hen : W.Top "enumerate" (.type "enumerate")) (hle : W.Top "len" (.builtin "len")) (hsu : W.Top "sum" (.builtin "sum"))
  {sig d : List Nat} {ns : List (List Nat)} (hd : d.length = 8) (hn : ns.length = 6) (hN : NamesOk sig ns) {Ψ : PV → Prop} (h : Ψ (.dict (profPV (prof ns (tickN d) 6)))) :
  CallP W (n + 1) (.val (.ref f)) [.list (txs ns), nums d] Ψ := by
 have hlen : ∀ k, (ns.getD k []).length ≤ 5 := name_len hN hn
 rw [prof_eq hN 6 (by with_reducible exact Om.leEq (by assumption) (by decide)), show ns.take 6 = ns by rw [← hn, List.take_length]] at h
 refine CallP.ob hf.toFnOb ["names", "drawn"] binds31 fun qual L cdv => ?_
 refine Ex.cons ?_
 fail "e"
 intro c₁
 fail "ev"
 with_reducible refine Ex1.forI ?_
 with_reducible refine EvI.of ?_
 fail "e"
 refine ⟨_, IterP.list, ?_⟩
 refine forL.inv (fun i σ => List.lookup (Str.ofString "names") σ = some (SV.fz (.list (txs ns))) ∧ List.lookup (Str.ofString "drawn") σ = some (SV.fz (nums d)) ∧
  List.lookup (Str.ofString "summed") σ = some (SV.od c₁ (profPV ((ns.take i).map fun p => (p, entE ns (tickN d) p 6))))) ⟨by fail "look", by fail "look", by fail "look"⟩ ?_ ?_
 ·intro i p σ hp oI Φ kk; refine o0_3 oI fun g1 g2 g3 => ?_; clear oI
  rw [txs_get] at hp
  cases ei : ns[i]? with
  | none => rw [ei] at hp; cases hp
  | some p =>
   rw [ei] at hp
   cases hp
   have hpl : p.length ≤ 5 := mem_len hN hn (List.mem_of_getElem? ei)
   have hi := (List.getElem?_eq_some_iff.mp ei).1
   refine Asg.name (by fail "wr") ?_
   fail "ev"
   refine Ex1.comp1 false (by fail "wr") (by with_unfolding_all rfl) (CompSc.mk' (by with_unfolding_all rfl) (by with_unfolding_all rfl) (by decide)) (EvX.tuple (EvT'.enumerate (by rfl) (by rfl) hen ?_))
   fail "e"
   refine (i1_2 ([("above", .str (S p))]) ⟨fun x q hx => ?_⟩ (fun C => ?_))
   ·rw [List.mem_singleton] at hx; cases hx
    exact ⟨by fail "look", by decide, fun q => by cases (show some NameKind.cell = some NameKind.local from q)⟩
   refine compB.inv (fun j σ' acc => List.lookup (Str.ofString "above") σ' = some (SV.fz (.str (S p))) ∧ acc = natsPV (below ns p j)) ⟨by fail "look", rfl⟩ ?_ ?_
   ·intro j q σ' acc hq oI Φ' kk'; refine o0_2 oI fun k1 zb => ?_; clear oI; obtain rfl := zb
    refine o0_2 (enum_item hq) fun hj zb => ?_; obtain rfl := zb
    refine AsgX.tup (by rfl) ?_
    fail "e"
    refine CTs.one ?_
    fail "e"
    refine CallS.of (CallP.lenS (by rw [S_len]; with_reducible exact Om.castLt' (by assumption) (by decide)) ?_)
    rw [S_len]
    refine SubS.of (SubP.cutS (lo := none) (hi := some p.length) (by have := hlen j; with_reducible exact Nat.le_trans (by assumption) (by decide)) ?_)
    fail "e"
    rw [show (cut (ns.getD j []) none (some p.length) == p) = pre p (ns.getD j []) by unfold cut pre; simp]
    cases hpre : pre p (ns.getD j []) with
    | true =>
     refine iteP rfl ?_
     refine ⟨by rw [natsPV, List.length_map]; exact Nat.le_trans (Nat.le_trans (below_len ns p j) (by exact Nat.le_of_lt (Om.ltEqLe (by assumption) (by assumption) (by decide)) : j ≤ 64)) (by decide), ?_⟩
     fail "e"
     refine kk' _ _ ⟨by fail "look", ?_⟩
     rw [below_succ, if_pos hpre, natsPV, natsPV, List.map_append]; rfl
    | false =>
     refine iteN (by decide) ?_
     refine kk' _ _ ⟨by fail "look", ?_⟩
     rw [below_succ, if_neg (by rw [hpre]; decide)]
   ·intro σ' acc oI; refine o0_2 oI fun k1 zb => ?_; clear oI; obtain rfl := zb
    intro c₂
    rw [show ((enumPV (txs ns)).map PV.tuple).length = 6 by simp [enumPV, txs, hn], if_neg (by decide)]
    have hjs : ∀ j ∈ below ns p 6, j < 6 ∧ pre p (ns.getD j []) = true := fun j hj => below_lt hj
    have hbl : (below ns p 6).length ≤ 6 := below_len ns p 6
    have hE : entE ns (tickN d) p 6 = foldE ns (tickN d) p (below ns p 6) := rfl
    rw [← List.take_length (l := below ns p 6)] at hE
    generalize hjsd : below ns p 6 = js at hjs hE hbl
    fail "e"
    intro c₃
    fail "ev"
    with_reducible refine Ex1.forI ?_
    with_reducible refine EvI.of ?_
    fail "e"
    refine ⟨_, IterP.list, ?_⟩
    refine forL.inv (fun m σ' => List.lookup (Str.ofString "names") σ' = some (SV.fz (.list (txs ns))) ∧ List.lookup (Str.ofString "drawn") σ' = some (SV.fz (nums d)) ∧
     List.lookup (Str.ofString "summed") σ' = some (SV.od c₁ (profPV ((ns.take i).map fun p => (p, entE ns (tickN d) p 6)))) ∧ List.lookup (Str.ofString "above") σ' = some (SV.fz (.str (S p))) ∧ List.lookup (Str.ofString "below") σ' = some (SV.fz (.list (natsPV js))) ∧
     List.lookup (Str.ofString "parts") σ' = some (SV.od c₃ (partsPV (foldE ns (tickN d) p (js.take m)).ps))) ⟨by fail "look", by fail "look", by fail "look", by fail "look", by fail "look", by fail "look"⟩ ?_ ?_
    ·intro m q σ' hq oI Φ' kk'; refine o0_6 oI fun m1 m2 m3 m4 m5 m6 => ?_; clear oI
     refine o1_2 (nats_get hq) fun j ej zc => ?_; obtain rfl := zc
     refine o0_2 (hjs j (List.mem_of_getElem? ej)) fun hj6 hjp => ?_
     have hsn : foldE ns (tickN d) p (js.take (m + 1)) = (foldE ns (tickN d) p (js.take m)).add (ns.getD j []) p.length (tickN d j) := by
      rw [List.take_add_one, ej]; exact foldE_snoc ns (tickN d) p (js.take m) j
     rw [hsn] at kk'
     have hps : (foldE ns (tickN d) p (js.take m)).ps.length ≤ m := Nat.le_trans (foldE_len ns (tickN d) p (js.take m)) (by rw [List.length_take]; exact Nat.min_le_left _ _)
     have hml : m < js.length := (List.getElem?_eq_some_iff.mp ej).1
     generalize foldE ns (tickN d) p (js.take m) = e at m6 kk' hps
     have hll := hlen j
     have hnj : (txs ns)[j]? = some (.str (S (ns.getD j []))) := by rw [txs_get, List.getD_eq_getElem?_getD, List.getElem?_eq_getElem (by with_reducible exact Nat.lt_of_lt_of_eq (by assumption) (Eq.symm (by assumption)))]; rfl
     generalize ns.getD j [] = l at hll hnj kk'
     fail "e"
     refine SubS.of (SubP.list (Int.natCast_nonneg _) (by with_reducible exact Om.castLt (by assumption) (by decide)) (by rw [Int.toNat_natCast]; exact hnj) ?_)
     fail "e"
     refine CallS.of (CallP.lenS (by rw [S_len]; with_reducible exact Om.castLt' (by assumption) (by decide)) ?_)
     rw [S_len]
     fail "e"
     refine CallS.of (CallP.lenS (by rw [S_len]; with_reducible exact Om.castLt' (by assumption) (by decide)) ?_)
     rw [S_len]
     fail "e"
     refine SubS.of (SubP.cutS (lo := some p.length) (hi := some (p.length + 1)) (by with_reducible exact Nat.le_trans (by assumption) (by decide)) ?_)
     rw [cut_item]
     fail "e"
     refine Ev.borrowD (by fail "look") ⟨_, MethS.dict (x := "parts") (by fail "look") F.slot_dict_get F.type_dict_get, KeepOk.builtin, ?_⟩
     fail "e"
     refine CallS.get2 (x := "parts") (by fail "look") ?_
     have hold : (dget (partsPV e.ps) (S (itemAt l p.length))).getD (.tuple [.int 0, .int 0]) = cntN ((kget e.ps (itemAt l p.length)).getD (0, 0)) := by
      unfold partsPV
      rw [dget_S (g := cntN)]
      cases kget e.ps (itemAt l p.length) <;> rfl
     rw [hold]
     have hpadd : padd e.ps (itemAt l p.length) 1 (tickN d j) = kput e.ps (itemAt l p.length) (((kget e.ps (itemAt l p.length)).getD (0, 0)).1 + 1, ((kget e.ps (itemAt l p.length)).getD (0, 0)).2 + tickN d j) := by
      unfold padd
      cases kget e.ps (itemAt l p.length) with
      | none => show kput _ _ (1, tickN d j) = kput _ _ (0 + 1, 0 + tickN d j); rw [Nat.zero_add, Nat.zero_add]
      | some v => show kput _ _ (1 + v.1, tickN d j + v.2) = kput _ _ (v.1 + 1, v.2 + tickN d j); rw [Nat.add_comm, Nat.add_comm v.2]
     generalize (kget e.ps (itemAt l p.length)).getD (0, 0) = v at hpadd
     refine Asg.tup (by rfl) ?_
     fail "e"
     refine SubS.of (SubP.list (p := .int ((d.getD j 0 : Nat) : Int)) (Int.natCast_nonneg _) (by with_reducible exact Om.castLt (by assumption) (by decide)) (by rw [Int.toNat_natCast]; exact nums_get (by exact Om.ltLe2 (by assumption) (by assumption) (by decide))) ?_)
     fail "e"
     refine Ev.borrowD (by fail "look") ?_
     fail "e"
     refine SetS.dict (x := "parts") (by fail "look") (by rw [partsPV, List.length_map]; exact Nat.le_trans (by omega : _ ≤ 64) (by decide)) ?_
     fail "e"
     refine kk' _ ⟨by fail "look", by fail "look", by fail "look", by fail "look", by fail "look", ?_⟩
     rw [show partsPV (e.add l p.length (tickN d j)).ps = dput (partsPV e.ps) (S (itemAt l p.length)) (cntN (v.1 + 1, v.2 + tickN d j)) by
      show partsPV (padd e.ps (itemAt l p.length) 1 (tickN d j)) = _
      rw [hpadd]; exact (dput_S (g := cntN)).symm]
     fail "look"
    ·rintro σ' ⟨m1, m2, m3, m4, m5, m6⟩
     rw [natsPV, List.length_map, ← hE] at m6
     rw [List.take_length] at hE
     have hok : EntOk (entE ns (tickN d) p 6) := by rw [hE]; exact foldE_ok _ _ _ _ _ .zero
     have hc : (entE ns (tickN d) p 6).c = js.length := by rw [hE]; exact (foldE_c ns (tickN d) p js .zero).trans (Nat.zero_add _)
     have hs' : (entE ns (tickN d) p 6).s = (js.map fun j => (ns.getD j []).length - p.length).sum := by rw [hE]; exact (foldE_s ns (tickN d) p js .zero).trans (Nat.zero_add _)
     fail "e"
     refine Ev.comp1 (CompSc.mk' (by with_unfolding_all rfl) (by with_unfolding_all rfl) (by decide)) (EvX.name (EvI.of ?_))
     fail "e"
     refine ⟨_, IterP.list, [("above", .str (S p)), ("names", .list (txs ns))], ⟨fun x q hx => ?_⟩, fun C' => ?_⟩
     ·rcases List.mem_cons.mp hx with hx | hx
      ·cases hx
       exact ⟨by fail "look", by decide, fun q => by cases (show some NameKind.cell = some NameKind.local from q)⟩
      ·rw [List.mem_singleton] at hx; cases hx
       exact ⟨by fail "look", by decide, fun q => by cases (show some NameKind.cell = some NameKind.local from q)⟩
     refine compB.inv (fun m σ'' acc => List.lookup (Str.ofString "above") σ'' = some (SV.fz (.str (S p))) ∧ List.lookup (Str.ofString "names") σ'' = some (SV.fz (.list (txs ns))) ∧
      acc = ((js.take m).map fun j => (((ns.getD j []).length - p.length : Nat) : Int)).map .int) ⟨by fail "look", by fail "look", rfl⟩ ?_ ?_
     ·intro m q σ'' acc hq oI Φ' kk'; refine o0_3 oI fun a1 a2 zc => ?_; clear oI; obtain rfl := zc
      refine o1_2 (nats_get hq) fun j ej zc => ?_; obtain rfl := zc
      refine o0_2 (hjs j (List.mem_of_getElem? ej)) fun hj6 hjp => ?_
      have hll := hlen j
      have hnj : (txs ns)[j]? = some (.str (S (ns.getD j []))) := by rw [txs_get, List.getD_eq_getElem?_getD, List.getElem?_eq_getElem (by with_reducible exact Nat.lt_of_lt_of_eq (by assumption) (Eq.symm (by assumption)))]; rfl
      refine AsgX.name (by fail "wr") ?_
      refine CTs.yes ?_
      refine ⟨by rw [List.length_map, List.length_map, List.length_take]; exact Nat.le_trans (by with_reducible exact Nat.le_trans (Nat.min_le_right _ _) (Nat.le_trans (by assumption) (by decide)) : _ ≤ 64) (by decide), ?_⟩
      fail "e"
      refine SubS.of (SubP.list (Int.natCast_nonneg _) (by with_reducible exact Om.castLt (by assumption) (by decide)) (by rw [Int.toNat_natCast]; exact hnj) ?_)
      fail "e"
      refine CallS.of (CallP.lenS (by rw [S_len]; with_reducible exact Om.castLt' (by assumption) (by decide)) ?_)
      rw [S_len]
      fail "e"
      refine CallS.of (CallP.lenS (by rw [S_len]; with_reducible exact Om.castLt' (by assumption) (by decide)) ?_)
      rw [S_len]
      fail "e"
      refine kk' _ _ ⟨by fail "look", by fail "look", ?_⟩
      have hpl2 : p.length ≤ (ns.getD j []).length := by
       have h1 : (ns.getD j []).take p.length = p := by simpa [pre] using hjp
       have := congrArg List.length h1
       rw [List.length_take] at this; exact this ▸ Nat.min_le_right _ _
      rw [List.take_add_one, ej, List.map_append, List.map_append]
      show _ = _ ++ [PV.int (((ns.getD j []).length - p.length : Nat) : Int)]
      rw [Int.ofNat_sub hpl2]
     ·intro σ'' acc oI; refine o0_3 oI fun a1 a2 zc => ?_; clear oI; obtain rfl := zc
      rw [show (natsPV js).length = js.length by rw [natsPV, List.length_map], List.take_length]
      fail "e"
      refine CallS.of (CallP.sumI ?_)
      rw [int_sum, ← hs']
      fail "e"
      refine CallS.of (CallP.lenL (by rw [natsPV, List.length_map]; with_reducible exact Om.castLt' (by assumption) (by decide)) ?_)
      rw [show (natsPV js).length = js.length by rw [natsPV, List.length_map], ← hc]
      fail "e"
      obtain ⟨v, hv⟩ : ∃ v, kget (entE ns (tickN d) p 6).ps [] = some v := by
       cases hk : kget (entE ns (tickN d) p 6).ps [] with
       | some v => exact ⟨v, rfl⟩
       | none =>
        exfalso
        refine kget_none.mp hk ?_
        rw [hE]
        have hii : ns.getD i [] = p := by rw [List.getD_eq_getElem?_getD, ei]; rfl
        have hij : i ∈ js := by
         rw [← hjsd]
         refine List.mem_filter.mpr ⟨by simp; exact Om.ltEqLe (by assumption) (by assumption) (by decide), ?_⟩
         rw [hii]; unfold pre; rw [List.take_length]; exact beq_self_eq_true _
        refine foldE_has ns (tickN d) p js .zero [] (.inr (i1_2 i hij ?_))
        rw [hii]; unfold itemAt; rw [List.drop_length]; rfl
      have hvt : (entE ns (tickN d) p 6).t = v.2 := by rw [hok.t, tickOf, hv]; rfl
      have hq' := hok.q
      have hnd := hok.nd
      have hpl3 : (entE ns (tickN d) p 6).ps.length ≤ 6 := by rw [hE]; exact Nat.le_trans (foldE_len _ _ _ _) hbl
      have hpv : entPV (entE ns (tickN d) p 6) = .tuple [.int ((entE ns (tickN d) p 6).c : Int), .int ((entE ns (tickN d) p 6).s : Int), .int ((entE ns (tickN d) p 6).t : Int), .int ((entE ns (tickN d) p 6).q : Int), .dict (partsPV (entE ns (tickN d) p 6).ps)] := rfl
      have hgoal : profPV ((ns.take (i + 1)).map fun p => (p, entE ns (tickN d) p 6)) = dput (profPV ((ns.take i).map fun p => (p, entE ns (tickN d) p 6))) (S p) (entPV (entE ns (tickN d) p 6)) := by
       unfold profPV
       rw [dput_S (g := entPV), kput_new]
       ·rw [List.take_add_one, ei, List.map_append]; rfl
       ·rw [List.map_map, show ((fun x : List Nat × Ent => x.1) ∘ fun p => (p, entE ns (tickN d) p 6)) = id from rfl, List.map_id]
        intro q
        refine o1_1 (List.mem_take_iff_getElem.mp q) fun j zz => ?_; refine o1_1 zz fun hj q2 => ?_; clear zz
        have h2 := (List.getElem?_eq_some_iff.mp ei).2
        have := (List.getElem_inj hN.nodup).mp (q2.trans h2.symm)
        exact Om.minNe (by assumption) (by assumption)
      rw [hvt] at hpv
      rw [hpv] at hgoal
      generalize entE ns (tickN d) p 6 = E at m6 hv hq' hnd hpl3 hgoal hpv
      refine Ev.own (Sto.look (by decide) m6) rfl ?_
      fail "e"
      refine SubS.of (SubP.dict (p := cntN v) (by show dget (partsPV E.ps) (S []) = _; unfold partsPV; rw [dget_S (g := cntN), hv]; rfl) ?_)
      fail "e"
      refine SubS.of (SubP.tup (k := 1) (p := .int (v.2 : Int)) (by decide) (by rfl) ?_)
      fail "e"
      refine Ev.comp1 (CompSc.mk' (by with_unfolding_all rfl) (by with_unfolding_all rfl) (by decide)) (EvX.name (EvI.of ?_))
      fail "e"
      refine ⟨_, IterP.dict, [("parts", .dict (partsPV E.ps))], ⟨fun x q hx => ?_⟩, fun C'' => ?_⟩
      ·rw [List.mem_singleton] at hx; cases hx
       exact ⟨by fail "look", by decide, fun q => by cases (show some NameKind.cell = some NameKind.local from q)⟩
      refine compB.inv (fun m σ'' acc => List.lookup (Str.ofString "parts") σ'' = some (SV.fz (.dict (partsPV E.ps))) ∧ acc = ((E.ps.take m).map fun x => ((x.2.2 : Nat) : Int)).map .int) ⟨by fail "look", rfl⟩ ?_ ?_
      ·intro m q σ'' acc hq oI Φ' kk'; refine o0_2 oI fun a1 zb => ?_; clear oI; obtain rfl := zb
       rw [partsPV, List.map_map, List.getElem?_map] at hq
       cases em : E.ps[m]? with
       | none => rw [em] at hq; cases hq
       | some x =>
        rw [em] at hq
        have hq2 : q = .str (S x.1) := (Option.some.inj hq).symm
        subst hq2
        refine AsgX.name (by fail "wr") ?_
        refine CTs.yes ?_
        refine ⟨by rw [List.length_map, List.length_map, List.length_take]; exact Nat.le_trans (by with_reducible exact Nat.le_trans (Nat.min_le_right _ _) (Nat.le_trans (by assumption) (by decide)) : _ ≤ 64) (by decide), ?_⟩
        fail "e"
        refine SubS.of (SubP.dict (p := cntN x.2) (by unfold partsPV; rw [dget_S (g := cntN), kget_mem hnd (List.mem_of_getElem? em)]; rfl) ?_)
        fail "e"
        refine SubS.of (SubP.tup (k := 1) (p := .int (x.2.2 : Int)) (by decide) (by rfl) ?_)
        refine kk' _ _ ⟨by fail "look", ?_⟩
        rw [List.take_add_one, em, List.map_append, List.map_append]; rfl
      ·intro σ'' acc oI; refine o0_2 oI fun a1 zb => ?_; clear oI; obtain rfl := zb
       rw [show ((partsPV E.ps).map fun e => PV.str e.1).length = E.ps.length by rw [List.length_map, partsPV, List.length_map], List.take_length]
       fail "e"
       refine CallS.of (CallP.sumI ?_)
       rw [int_sum, ← hq']
       fail "e"
       refine Ev.borrowD (by fail "look") ?_
       fail "e"
       refine SetS.dict (x := "summed") (by fail "look") (by rw [profPV, List.length_map, List.length_map, List.length_take]; exact Nat.le_trans (by with_reducible exact Nat.le_trans (Nat.min_le_right _ _) (Om.eqLe (by assumption) (by decide)) : _ ≤ 64) (by decide)) ?_
       fail "e"
       refine kk _ ⟨by fail "look", by fail "look", ?_⟩
       rw [hgoal]
       fail "look"
 ·rintro σ ⟨g1, g2, g3⟩
  rw [txs, List.length_map, List.take_length] at g3
  fail "e"
  refine Ev.own (by fail "look") rfl ?_
  exact h
end
section
abbrev Lt := List Nat → List Nat → Bool
def cN (ns : List (List Nat)) (p it : List Nat) : Nat := ((List.range 6).filter fun j => pre p (ns.getD j []) && (itemAt (ns.getD j []) p.length == it)).length
def sumC (ns : List (List Nat)) (p : List Nat) (its : List (List Nat)) : Nat := (its.map (cN ns p)).sum
def ltP (lt : Lt) : List Nat → List Nat → Bool
 | _, [] => false
 | [], d :: _ => lt [] [d]
 | c :: l, d :: m => if c = d then ltP lt l m else lt [c] [d]
def ltN (lt : Lt) : List Nat → List Nat → Bool
 | [], [] => false
 | [], d :: _ => lt [] [d]
 | c :: _, [] => lt [c] []
 | c :: l, d :: m => if c = d then ltN lt l m else lt [c] [d]
def LP (lt : Lt) (ns : List (List Nat)) (p : List Nat) : Nat := ((List.range 6).filter fun j => ltP lt (ns.getD j []) p).length
def LN (lt : Lt) (ns : List (List Nat)) (p : List Nat) : Nat := ((List.range 6).filter fun j => ltN lt (ns.getD j []) p).length
theorem pre_nil (l : List Nat) : pre [] l = true := by unfold pre; simp
theorem pre_cons (c : Nat) (p : List Nat) (d : Nat) (l : List Nat) : pre (c :: p) (d :: l) = (decide (d = c) && pre p l) := by
 unfold pre
 rw [List.length_cons, List.take_succ_cons]
 by_cases h : d = c
 ·subst h; simp
 ·simp [h]
theorem pre_cnil (c : Nat) (p : List Nat) : pre (c :: p) [] = false := by unfold pre; simp
theorem itemAt_cons (d : Nat) (l : List Nat) (k : Nat) : itemAt (d :: l) (k + 1) = itemAt l k := rfl
theorem ltP_snoc {lt : Lt} (hi : ∀ c, lt [c] [c] = false) (x : Nat) : ∀ (a p : List Nat), ltP lt a (p ++ [x]) = (ltP lt a p || (pre p a && lt (itemAt a p.length) [x]))
 | [], [] => by rw [pre_nil]; rfl
 | c :: l, [] => by
  rw [pre_nil]
  show (if c = x then ltP lt l [] else lt [c] [x]) = (false || (true && lt [c] [x]))
  by_cases h : c = x
  ·subst h; rw [if_pos rfl, hi]; cases l <;> rfl
  ·rw [if_neg h]; simp
 | [], d :: p => by
  rw [pre_cnil]
  show lt [] [d] = (lt [] [d] || (false && _)); simp
 | c :: l, d :: p => by
  rw [pre_cons]
  show (if c = d then ltP lt l (p ++ [x]) else lt [c] [d]) = ((if c = d then ltP lt l p else lt [c] [d]) || ((decide (c = d) && pre p l) && lt (itemAt (c :: l) (p.length + 1)) [x]))
  rw [itemAt_cons]
  by_cases h : c = d
  ·rw [if_pos h, if_pos h, ltP_snoc hi x l p]; simp [h]
  ·rw [if_neg h, if_neg h]; simp [h]
theorem ltN_eq {lt : Lt} (h0 : lt [] [] = false) : ∀ (a p : List Nat), ltN lt a p = (ltP lt a p || (pre p a && lt (itemAt a p.length) []))
 | [], [] => by rw [pre_nil]; show false = (false || (true && lt [] [])); rw [h0]; rfl
 | c :: l, [] => by rw [pre_nil]; show lt [c] [] = (false || (true && lt [c] [])); simp
 | [], d :: p => by rw [pre_cnil]; show lt [] [d] = (lt [] [d] || (false && _)); simp
 | c :: l, d :: p => by
  rw [pre_cons]
  show (if c = d then ltN lt l p else lt [c] [d]) = ((if c = d then ltP lt l p else lt [c] [d]) || ((decide (c = d) && pre p l) && lt (itemAt (c :: l) (p.length + 1)) []))
  rw [itemAt_cons]
  by_cases h : c = d
  ·rw [if_pos h, if_pos h, ltN_eq h0 l p]; simp [h]
  ·rw [if_neg h, if_neg h]; simp [h]
theorem ltP_pre {lt : Lt} : ∀ (a p : List Nat), ltP lt a p = true → pre p a = false
 | [], [], h => by cases h
 | c :: l, [], h => by cases h
 | [], d :: p, _ => pre_cnil d p
 | c :: l, d :: p, h => by
  rw [pre_cons]
  by_cases q : c = d
  ·have : ltP lt l p = true := by
    have h2 : (if c = d then ltP lt l p else lt [c] [d]) = true := h
    rwa [if_pos q] at h2
   rw [ltP_pre l p this]; simp
  ·simp [q]
theorem filter_or {α : Type} {f g : α → Bool} (h : ∀ a, f a = true → g a = false) : ∀ l : List α, (l.filter fun a => f a || g a).length = (l.filter f).length + (l.filter g).length
 | [] => rfl
 | a :: l => by
  have ih := filter_or h l
  rw [List.filter_cons, List.filter_cons, List.filter_cons]
  cases hf : f a with
  | true => rw [h a hf]; simp [ih]; exact Nat.add_right_comm _ _ _
  | false =>
   cases hg : g a with
   | true => simp [ih]; rfl
   | false => simp [ih]
theorem sumC_filter (ns : List (List Nat)) (p : List Nat) : ∀ its : List (List Nat), its.Nodup → sumC ns p its = ((List.range 6).filter fun j => pre p (ns.getD j []) && decide (itemAt (ns.getD j []) p.length ∈ its)).length
 | [], _ => by
  rw [show (fun j => pre p (ns.getD j []) && decide (itemAt (ns.getD j []) p.length ∈ ([] : List (List Nat)))) = fun _ => false from by funext j; simp]; rfl
 | x :: its, h => by
  rw [List.nodup_cons] at h
  have ih := sumC_filter ns p its h.2
  show cN ns p x + sumC ns p its = _
  rw [ih]
  unfold cN
  rw [← filter_or]
  ·congr 2
   funext j
   cases pre p (ns.getD j []) with
   | false => rfl
   | true =>
    generalize itemAt (ns.getD j []) p.length = y
    by_cases q : y = x
    ·subst q; simp
    ·have : (y == x) = false := by simpa using q
     simp [q, this]
  ·intro j q
   simp only [Bool.and_eq_true, beq_iff_eq] at q
   rw [q.2]; simp [h.1]
structure OrdOk (lt : Lt) (ord : List (List Nat)) (sig : List Nat) : Prop where
 pm : ord.Perm ([] :: sig.map fun c => [c])
 pw : ord.Pairwise (fun a b => lt a b = true)
 ir : ∀ a, lt a a = false
 as : ∀ a b, lt a b = true → lt b a = false
theorem OrdOk.nodup {lt : Lt} {ord : List (List Nat)} {sig : List Nat} (h : OrdOk lt ord sig) : ord.Nodup := h.pw.imp fun {a b} q e => by
 subst e; rw [h.ir] at q; cases q
theorem OrdOk.item {lt : Lt} {ord : List (List Nat)} {sig : List Nat} (h : OrdOk lt ord sig) {l : List Nat} (hl : ∀ c ∈ l, c ∈ sig) (d : Nat) : itemAt l d ∈ ord := by
 refine h.pm.mem_iff.mpr ?_
 unfold itemAt
 cases e : l.drop d with
 | nil => exact .head _
 | cons c r =>
  refine .tail _ (List.mem_map.mpr (i1_2 c (hl c ?_) rfl))
  have : c ∈ l.drop d := by rw [e]; exact .head _
  exact List.mem_of_mem_drop this
theorem OrdOk.take {lt : Lt} {ord : List (List Nat)} {sig : List Nat} (h : OrdOk lt ord sig) {m : Nat} {x a : List Nat} (hx : ord[m]? = some x) (ha : a ∈ ord) : a ∈ ord.take m ↔ lt a x = true := by
 refine o1_1 (List.getElem?_eq_some_iff.mp hx) fun hm hx => ?_
 refine o1_1 (List.mem_iff_getElem.mp ha) fun i zz => ?_; refine o1_1 zz fun hi zb => ?_; clear zz; obtain rfl := zb
 have pw := List.pairwise_iff_getElem.mp h.pw
 constructor
 ·intro q
  refine o1_1 (List.mem_take_iff_getElem.mp q) fun j zz => ?_; refine o1_1 zz fun hj e => ?_; clear zz
  rw [← e, ← hx]; exact pw j m (by exact Om.ltMin' (by assumption)) hm (by exact Om.ltMin (by assumption))
 ·intro q
  rcases Nat.lt_trichotomy i m with c | c | c
  ·exact List.mem_take_iff_getElem.mpr ⟨i, by omega, rfl⟩
  ·subst c; rw [← hx, h.ir] at q; cases q
  ·have := h.as _ _ (pw m i hm hi c)
   rw [← hx, this] at q; cases q
section
variable {lt : Lt} {ord : List (List Nat)} {sig : List Nat} {ns : List (List Nat)}
theorem sumC_take (h : OrdOk lt ord sig) (hs : ∀ l ∈ ns, ∀ c ∈ l, c ∈ sig) {m : Nat} {x : List Nat} (hx : ord[m]? = some x) (p : List Nat) :
  sumC ns p (ord.take m) = ((List.range 6).filter fun j => pre p (ns.getD j []) && lt (itemAt (ns.getD j []) p.length) x).length := by
 rw [sumC_filter ns p _ (h.nodup.sublist (List.take_sublist _ _))]
 congr 2
 funext j
 congr 1
 have hm : itemAt (ns.getD j []) p.length ∈ ord := by
  refine h.item ?_ _
  rw [List.getD_eq_getElem?_getD]
  cases e : ns[j]? with
  | none => intro c hc; cases hc
  | some l => exact hs l (List.mem_of_getElem? e)
 have := h.take hx hm
 cases e : lt (itemAt (ns.getD j []) p.length) x with
 | true => exact decide_eq_true (this.mpr e)
 | false => exact decide_eq_false fun q => by rw [this.mp q] at e; cases e
theorem LP_snoc (h : OrdOk lt ord sig) (hs : ∀ l ∈ ns, ∀ c ∈ l, c ∈ sig) {m x : Nat} (hx : ord[m]? = some [x]) (p : List Nat) : LP lt ns (p ++ [x]) = LP lt ns p + sumC ns p (ord.take m) := by
 rw [sumC_take h hs hx]
 unfold LP
 rw [← filter_or]
 ·congr 2; funext j; exact ltP_snoc (fun c => h.ir _) x _ _
 ·intro j q; rw [ltP_pre _ _ q]; rfl
theorem LN_eq (h : OrdOk lt ord sig) (hs : ∀ l ∈ ns, ∀ c ∈ l, c ∈ sig) {m : Nat} (hx : ord[m]? = some []) (p : List Nat) : LN lt ns p = LP lt ns p + sumC ns p (ord.take m) := by
 rw [sumC_take h hs hx]
 unfold LN LP
 rw [← filter_or]
 ·congr 2; funext j; exact ltN_eq (h.ir _) _ _
 ·intro j q; rw [ltP_pre _ _ q]; rfl
end
theorem LP_nil (lt : Lt) (ns : List (List Nat)) : LP lt ns [] = 0 := by
 unfold LP
 rw [show (fun j => ltP lt (ns.getD j []) []) = fun _ => false from by funext j; cases ns.getD j [] <;> rfl]; simp
def c0 (e : Ent) (it : List Nat) : Nat := ((kget e.ps it).map (·.1)).getD 0
theorem c0_add (e : Ent) (l : List Nat) (d tick : Nat) (it : List Nat) : c0 (e.add l d tick) it = c0 e it + if itemAt l d = it then 1 else 0 := by
 show ((kget (padd e.ps (itemAt l d) 1 tick) it).map (·.1)).getD 0 = _
 rw [padd_get]
 by_cases h : it = itemAt l d
 ·rw [if_pos h, if_pos h.symm, h]; unfold c0
  cases kget e.ps (itemAt l d) with
  | none => rfl
  | some v => show 1 + v.1 = v.1 + 1; with_reducible exact Nat.add_comm _ _
 ·rw [if_neg h, if_neg (Ne.symm h)]; rfl
def EPos (e : Ent) : Prop := ∀ it v, kget e.ps it = some v → 1 ≤ v.1
theorem EPos.add {e : Ent} (h : EPos e) (l : List Nat) (d tick : Nat) : EPos (e.add l d tick) := fun it v hv => by
 have hv : kget (padd e.ps (itemAt l d) 1 tick) it = some v := hv
 rw [padd_get] at hv
 by_cases q : it = itemAt l d
 ·rw [if_pos q] at hv
  cases hk : kget e.ps (itemAt l d) with
  | none => rw [hk] at hv; cases hv; exact Nat.le_refl 1
  | some u => rw [hk] at hv; cases hv; exact Nat.le_add_right 1 _
 ·rw [if_neg q] at hv; exact h it v hv
theorem foldE_pos (ns : List (List Nat)) (tk : Nat → Nat) (p : List Nat) : ∀ (js : List Nat) (e : Ent), EPos e → EPos (js.foldl (fun e j => e.add (ns.getD j []) p.length (tk j)) e)
 | [], _, h => h
 | j :: js, e, h => foldE_pos ns tk p js _ (h.add _ _ _)
theorem foldE_c0 (ns : List (List Nat)) (tk : Nat → Nat) (p it : List Nat) : ∀ (js : List Nat) (e : Ent), c0 (js.foldl (fun e j => e.add (ns.getD j []) p.length (tk j)) e) it = c0 e it + (js.filter fun j => itemAt (ns.getD j []) p.length == it).length
 | [], _ => rfl
 | j :: js, e => by
  rw [List.foldl_cons, foldE_c0 ns tk p it js, c0_add, List.filter_cons]
  by_cases h : itemAt (ns.getD j []) p.length = it
  ·rw [if_pos h, if_pos (by simpa using h), List.length_cons]; exact Nat.add_right_comm _ _ _
  ·rw [if_neg h, if_neg (by simpa using h)]; rfl
theorem entE_c0 (ns : List (List Nat)) (tk : Nat → Nat) (p it : List Nat) : c0 (entE ns tk p 6) it = cN ns p it := by
 rw [entE_fold]; unfold foldE
 rw [foldE_c0, List.filter_filter]
 show 0 + _ = _
 rw [Nat.zero_add]; unfold cN
 congr 2; funext j; exact Bool.and_comm _ _
theorem entE_some {ns : List (List Nat)} {tk : Nat → Nat} {p it : List Nat} {v : Nat × Nat} (h : kget (entE ns tk p 6).ps it = some v) : v.1 = cN ns p it := by
 rw [← entE_c0 ns tk p it]; unfold c0; rw [h]; rfl
theorem entE_none {ns : List (List Nat)} {tk : Nat → Nat} {p it : List Nat} (h : kget (entE ns tk p 6).ps it = none) : cN ns p it = 0 := by
 rw [← entE_c0 ns tk p it]; unfold c0; rw [h]; rfl
theorem entE_ex {ns : List (List Nat)} {tk : Nat → Nat} {p it : List Nat} (h : cN ns p it ≠ 0) : ∃ v, kget (entE ns tk p 6).ps it = some v := by
 cases e : kget (entE ns tk p 6).ps it with
 | some v => exact ⟨v, rfl⟩
 | none => exact absurd (entE_none e) h
theorem cN_pos {ns : List (List Nat)} {p : List Nat} {x i : Nat} (hi : i < 6) (h : ns.getD i [] = p ++ [x]) : cN ns p [x] ≠ 0 := by
 unfold cN
 intro q
 have := List.length_eq_zero_iff.mp q
 rw [List.filter_eq_nil_iff] at this
 refine this i (List.mem_range.mpr hi) ?_
 rw [h]; unfold pre itemAt; simp
theorem cN_self {ns : List (List Nat)} {p : List Nat} {i : Nat} (hi : i < 6) (h : ns.getD i [] = p) : cN ns p [] ≠ 0 := by
 unfold cN
 intro q
 have := List.length_eq_zero_iff.mp q
 rw [List.filter_eq_nil_iff] at this
 refine this i (List.mem_range.mpr hi) ?_
 rw [h]; unfold pre itemAt; simp
end
section
variable {W : Wd} {n : Nat} {env : Env} {wr : List Str} {σ : Sto}
def tx (t : Tab) : List Nat → List Nat
 | [] => t.end_
 | c :: _ => spl t.m c
def keysL (sig : List Nat) : List (List Nat) := [] :: sig.map fun c => [c]
def ltT (t : Tab) : Lt := fun a b => decide (tx t a < tx t b)
theorem tabPV_eq (sig : List Nat) (t : Tab) : tabPV sig t = (keysL sig).map fun it => (S it, .str (S (tx t it))) := by
 unfold tabPV keysL
 rw [List.map_cons, List.map_map]; rfl
theorem tab_get {sig : List Nat} {t : Tab} {it : List Nat} (h : it ∈ keysL sig) : dget (tabPV sig t) (S it) = some (.str (S (tx t it))) := by
 rcases List.mem_cons.mp h with h | h
 ·subst h; exact dget_tab0
 ·refine o1_2 (List.mem_map.mp h) fun c hc zc => ?_; obtain rfl := zc
  exact dget_tab hc
theorem S_cps (l : List Nat) : (S l).cps.toList = l := by unfold S; simp
theorem binds32 : Binds (top 32) ["names", "profile", "table"] := fun name qual kV doc pm an cdv ct vals hv => by
 refine o3_1 (list3 hv) fun _ _ _ zd => ?_; obtain rfl := zd; rfl
def startsPV (st : List (List Nat × Nat)) : List (Str × PV) := st.map fun x => (S x.1, .int (x.2 : Int))
theorem ltT_ok {sig : List Nat} {t : Tab} {ord : List (List Nat)} (hp : ord.Perm (keysL sig)) (hw : ord.Pairwise fun a b => tx t a < tx t b) : OrdOk (ltT t) ord sig :=
 ⟨hp, hw.imp fun {a b} q => decide_eq_true q, fun a => decide_eq_false (List.lt_irrefl _), fun a b q => decide_eq_false fun r => List.lt_irrefl _ (List.lt_trans (of_decide_eq_true q) r)⟩
theorem ord_of {sig : List Nat} {t : Tab} {out : List (Str × Str)} (hp : out.Perm ((keysL sig).map fun it => (S (tx t it), S it))) :
  ∃ ord : List (List Nat), ord.Perm (keysL sig) ∧ out = ord.map fun it => (S (tx t it), S it) := by
 refine (i1_2 (out.map fun e => e.2.cps.toList) ?_ ?_)
 ·have := hp.map (fun e : Str × Str => e.2.cps.toList)
  rw [List.map_map] at this
  refine this.trans (List.Perm.of_eq ?_)
  conv => rhs; rw [← List.map_id (keysL sig)]
  exact List.map_congr_left fun it _ => S_cps it
 ·rw [List.map_map]
  conv => lhs; rw [← List.map_id out]
  refine List.map_congr_left fun e he => ?_
  refine o1_2 (List.mem_map.mp (hp.mem_iff.mp he)) fun it _ zc => ?_; obtain rfl := zc
  show (S (tx t it), S it) = (S (tx t (S it).cps.toList), S (S it).cps.toList)
  rw [S_cps]
section
variable {lt : Lt} {ord : List (List Nat)} {sig : List Nat} {ns : List (List Nat)}
def StIn (lt : Lt) (ns ord : List (List Nat)) (k m : Nat) (p : List Nat) (st : List (List Nat × Nat)) : Prop :=
 st.length ≤ 1 + 4 * k + m ∧ ∀ i, k < i → i < 6 → ((ns.getD i []).dropLast ∈ ns.take k ∨ ∃ x, [x] ∈ ord.take m ∧ ns.getD i [] = p ++ [x]) → kget st (ns.getD i []) = some (LP lt ns (ns.getD i []))
def StOut (lt : Lt) (ns : List (List Nat)) (k : Nat) (st : List (List Nat × Nat)) : Prop :=
 st.length ≤ 1 + 4 * k ∧ ∀ i, k ≤ i → i < 6 → (i = 0 ∨ (ns.getD i []).dropLast ∈ ns.take k) → kget st (ns.getD i []) = some (LP lt ns (ns.getD i []))
theorem ns_get (hn : ns.length = 6) {i : Nat} (hi : i < 6) : ns[i]? = some (ns.getD i []) := by
 rw [List.getD_eq_getElem?_getD, List.getElem?_eq_getElem (by with_reducible exact Nat.lt_of_lt_of_eq (by assumption) (Eq.symm (by assumption)))]; rfl
theorem StOut.start (hN : NamesOk sig ns) : StOut lt ns 0 [([], 0)] := by
 refine ⟨by simp, fun i _ hi h => ?_⟩
 rcases h with rfl | h
 ·have : ns.getD 0 [] = [] := by rw [List.getD_eq_getElem?_getD, hN.first]; rfl
  rw [this, LP_nil]; rfl
 ·simp at h
theorem StOut.get (hN : NamesOk sig ns) {k : Nat} {st : List (List Nat × Nat)} {p : List Nat} (h : StOut lt ns k st) (hk : k < 6) (hp : ns[k]? = some p) : kget st p = some (LP lt ns p) := by
 have e : ns.getD k [] = p := by rw [List.getD_eq_getElem?_getD, hp]; rfl
 rw [← e]
 refine h.2 k (Nat.le_refl _) hk ?_
 by_cases q : k = 0
 ·exact .inl q
 ·rw [e]; exact .inr (hN.up k p hp q).2
theorem StOut.in_ {k : Nat} {st : List (List Nat × Nat)} {p : List Nat} (h : StOut lt ns k st) : StIn lt ns ord k 0 p st := by
 refine ⟨by have := h.1; assumption, fun i hk hi q => h.2 i (by with_reducible exact Nat.le_of_lt (by assumption)) hi (.inr ?_)⟩
 rcases q with q | ⟨x, hx, _⟩
 ·exact q
 ·simp at hx
theorem StIn.put (hO : OrdOk lt ord sig) (hN : NamesOk sig ns) (hn : ns.length = 6) {k m : Nat} {st : List (List Nat × Nat)} {p it : List Nat} (h : StIn lt ns ord k m p st) (hk : k < 6) (hp : ns[k]? = some p) (hm : ord[m]? = some it) :
  StIn lt ns ord k (m + 1) p (kput st (p ++ it) (LP lt ns p + sumC ns p (ord.take m))) := by
 refine ⟨by have := h.1; have := kput_len (m := st) (k := p ++ it) (v := LP lt ns p + sumC ns p (ord.take m)); omega, fun i hk' hi q => ?_⟩
 rw [kget_put]
 by_cases e : ns.getD i [] = p ++ it
 ·rw [if_pos e, e]
  rcases List.mem_cons.mp (hO.pm.mem_iff.mp (List.mem_of_getElem? hm)) with r | r
  ·rw [r, List.append_nil] at e
   have h1 := ns_get hn hi
   rw [e] at h1
   have h1 := List.getElem?_eq_some_iff.mp h1
   have h2 := List.getElem?_eq_some_iff.mp hp
   have := (List.getElem_inj hN.nodup).mp (h1.2.trans h2.2.symm)
   omega
  ·refine o1_2 (List.mem_map.mp r) fun c hc zc => ?_; obtain rfl := zc
   rw [LP_snoc hO hN.of_ hm]
 ·rw [if_neg e]
  refine h.2 i hk' hi ?_
  rcases q with q | ⟨x, hx, q⟩
  ·exact .inl q
  ·rw [List.take_add_one, hm] at hx
   rcases List.mem_append.mp hx with hx | hx
   ·exact .inr (i1_2 x hx q)
   ·have : [x] = it := by simpa using hx
    exact absurd (this ▸ q) e
theorem StIn.skip {k m : Nat} {st : List (List Nat × Nat)} {p it : List Nat} (h : StIn lt ns ord k m p st) (hm : ord[m]? = some it) (hc : cN ns p it = 0) : StIn lt ns ord k (m + 1) p st := by
 refine ⟨by have := h.1; omega, fun i hk' hi q => h.2 i hk' hi ?_⟩
 rcases q with q | ⟨x, hx, q⟩
 ·exact .inl q
 ·rw [List.take_add_one, hm] at hx
  rcases List.mem_append.mp hx with hx | hx
  ·exact .inr (i1_2 x hx q)
  ·have : [x] = it := by simpa using hx
   exact absurd (this ▸ hc) (cN_pos hi q)
theorem StIn.out (hO : OrdOk lt ord sig) (hN : NamesOk sig ns) (hn : ns.length = 6) {k : Nat} {st : List (List Nat × Nat)} {p : List Nat} (h : StIn lt ns ord k 4 p st) (hl : ord.length = 4) (hp : ns[k]? = some p) : StOut lt ns (k + 1) st := by
 refine ⟨by have := h.1; assumption, fun i hk' hi q => h.2 i (by assumption) hi ?_⟩
 refine o0_2 (hN.up i _ (ns_get hn hi) (by omega)) fun hne _ => ?_
 rcases q with q | q
 ·omega
 ·rw [List.take_add_one, hp] at q
  rcases List.mem_append.mp q with q | q
  ·exact .inl q
  ·have q2 : (ns.getD i []).dropLast = p := by simpa using q
   have e := List.dropLast_concat_getLast hne
   rw [q2] at e
   refine .inr (i1_2 ((ns.getD i []).getLast hne) ?_ e.symm)
   rw [List.take_of_length_le (by with_reducible exact Nat.le_of_eq (by assumption))]
   refine hO.pm.mem_iff.mpr (.tail _ (List.mem_map.mpr (i1_2 _ ?_ rfl)))
   exact hN.of_ _ (List.mem_of_getElem? (ns_get hn hi)) _ (List.getLast_mem hne)
theorem sumC_succ {m : Nat} {p it : List Nat} (hm : ord[m]? = some it) : sumC ns p (ord.take (m + 1)) = sumC ns p (ord.take m) + cN ns p it := by
 unfold sumC
 rw [List.take_add_one, hm, List.map_append, List.sum_append]; simp
theorem mem_succ {m : Nat} {it : List Nat} (hm : ord[m]? = some it) : ([] ∈ ord.take (m + 1)) ↔ ([] ∈ ord.take m ∨ it = []) := by
 rw [List.take_add_one, hm, List.mem_append]
 simp [eq_comm]
theorem OrdOk.not_in (hO : OrdOk lt ord sig) {m : Nat} {it : List Nat} (hm : ord[m]? = some it) : it ∉ ord.take m := fun q => by
 refine o1_1 (List.mem_take_iff_getElem.mp q) fun j zz => ?_; refine o1_1 zz fun hj e => ?_; clear zz
 refine o1_1 (List.getElem?_eq_some_iff.mp hm) fun h1 h2 => ?_
 have := (List.getElem_inj hO.nodup).mp (e.trans h2.symm)
 exact Om.minNe (by assumption) (by assumption)
end
theorem places_ok {f : Addr} (hf : FnAt W "_law_places" 32 f) (hso : W.Top "sorted" (.builtin "sorted"))
  {sig : List Nat} {ns : List (List Nat)} {tk : Nat → Nat} {t : Tab} (hs : sig.length = 3) (hn : ns.length = 6) (hN : NamesOk sig ns) (hd : ((keysL sig).map (tx t)).Nodup) {Ψ : PV → Prop} (h : Ψ (.list (natsPV (ns.map (LN (ltT t) ns))))) :
  CallP W (n + 1) (.val (.ref f)) [.list (txs ns), .dict (profPV (prof ns tk 6)), .dict (tabPV sig t)] Ψ := by
 rw [prof_eq hN 6 (by with_reducible exact Om.leEq (by assumption) (by decide)), show ns.take 6 = ns by rw [← hn, List.take_length]]
 have hkl : (keysL sig).length = 4 := by simp [keysL, hs]
 refine CallP.ob hf.toFnOb ["names", "profile", "table"] binds32 fun qual L cdv => ?_
 refine Ex.cons ?_
 refine Ex1.comp1 false (by fail "wr") (by with_unfolding_all rfl) (CompSc.mk' (by with_unfolding_all rfl) (by with_unfolding_all rfl) (by decide)) (EvX.tuple ?_)
 with_reducible refine EvT'.of ?_
 fail "e"
 refine Ev.comp1 (CompSc.mk' (by with_unfolding_all rfl) (by with_unfolding_all rfl) (by decide)) (EvX.name (EvI.of ?_))
 fail "e"
 refine ⟨_, IterP.dict, [("table", .dict (tabPV sig t))], ⟨fun x q hx => ?_⟩, fun C => ?_⟩
 ·rw [List.mem_singleton] at hx; cases hx
  exact ⟨by fail "look", by decide, fun q => by cases (show some NameKind.cell = some NameKind.local from q)⟩
 rw [show (tabPV sig t).map (fun e => PV.str e.1) = (keysL sig).map fun it => PV.str (S it) by rw [tabPV_eq, List.map_map]; rfl]
 refine compB.inv (fun j σ' acc => List.lookup (Str.ofString "table") σ' = some (SV.fz (.dict (tabPV sig t))) ∧ acc = ((keysL sig).take j).map fun it => ssT (S (tx t it), S it)) ⟨by fail "look", rfl⟩ ?_ ?_
 ·intro j q σ' acc hq oI Φ' kk'; refine o0_2 oI fun k1 zb => ?_; clear oI; obtain rfl := zb
  rw [List.getElem?_map] at hq
  cases ej : (keysL sig)[j]? with
  | none => rw [ej] at hq; cases hq
  | some it =>
   rw [ej] at hq
   have hq2 : q = .str (S it) := (Option.some.inj hq).symm
   subst hq2
   have hit := List.mem_of_getElem? ej
   refine AsgX.name (by fail "wr") ?_
   refine CTs.yes ?_
   refine ⟨by rw [List.length_map, List.length_take]; exact Nat.le_trans (by with_reducible exact Nat.le_trans (Nat.min_le_right _ _) (Om.eqLe (by assumption) (by decide)) : _ ≤ 64) (by decide), ?_⟩
   fail "e"
   refine SubS.of (SubP.dict (tab_get hit) ?_)
   fail "e"
   refine kk' _ _ ⟨by fail "look", ?_⟩
   rw [List.take_add_one, ej, List.map_append]; rfl
 ·intro σ' acc oI; refine o0_2 oI fun k1 zb => ?_; clear oI; obtain rfl := zb
  rw [List.length_map, List.take_length]
  fail "e"
  rw [show (keysL sig).map (fun it => ssT (S (tx t it), S it)) = ((keysL sig).map fun it => (S (tx t it), S it)).map ssT by rw [List.map_map]; rfl]
  refine CallS.of (CallP.sorted4 (by rw [List.length_map, hkl]) ?_ fun out hout hpw => ?_)
  ·rw [List.map_map]
   have := nodup_S hd
   rwa [List.map_map] at this
  refine o1_2 (ord_of hout) fun ord hop zc => ?_; obtain rfl := zc
  have hpw : ord.Pairwise fun a b => tx t a < tx t b := by
   have := List.pairwise_map.mp hpw
   exact this.imp fun {a b} q => by rwa [S_cps, S_cps] at q
  have hO := ltT_ok hop hpw
  have hol : ord.length = 4 := hop.length_eq.trans hkl
  clear hout hpw hop
  fail "e"
  rw [show (ord.map fun it => (S (tx t it), S it)).map ssT = (ord.map fun it => [PV.str (S (tx t it)), PV.str (S it)]).map .tuple by rw [List.map_map, List.map_map]; rfl]
  refine ⟨_, IterTP.list, [], ⟨fun x q hx => by cases hx⟩, fun C => ?_⟩
  refine compB.inv (fun j σ' acc => acc = (ord.take j).map fun it => PV.str (S it)) rfl ?_ ?_
  ·intro j q σ' acc hq oI Φ' kk'; obtain rfl := oI
   rw [List.map_map, List.getElem?_map] at hq
   cases ej : ord[j]? with
   | none => rw [ej] at hq; cases hq
   | some it =>
    rw [ej] at hq
    have hq2 : q = .tuple [.str (S (tx t it)), .str (S it)] := (Option.some.inj hq).symm
    subst hq2
    refine AsgX.tup (by rfl) ?_
    fail "e"
    refine CTs.yes ?_
    refine ⟨by rw [List.length_map, List.length_take]; exact Nat.le_trans (by with_reducible exact Nat.le_trans (Nat.min_le_right _ _) (Om.eqLe (by assumption) (by decide)) : _ ≤ 64) (by decide), ?_⟩
    fail "e"
    refine kk' _ _ ?_
    rw [List.take_add_one, ej, List.map_append]; rfl
  ·intro σ' acc oI; obtain rfl := oI
   rw [List.map_map, List.length_map, List.take_length]
   intro c₀
   rw [if_neg (by decide)]
   fail "e"
   intro c₁
   rw [show mput [(S (lit ""), PV.int 0)] = startsPV [([], 0)] from mput_eq _ [[]] rfl (by decide)]
   fail "e"
   intro c₂
   fail "ev"
   with_reducible refine Ex1.forI ?_
   with_reducible refine EvI.of ?_
   fail "e"
   refine ⟨_, IterP.list, ?_⟩
   refine forL.inv (fun k σ' => List.lookup (Str.ofString "profile") σ' = some (SV.fz (PV.dict (profPV (ns.map fun p => (p, entE ns tk p 6))))) ∧ List.lookup (Str.ofString "order") σ' = some (SV.fz (.list (ord.map fun it => PV.str (S it)))) ∧
    (∃ st, List.lookup (Str.ofString "starts") σ' = some (SV.od c₁ (startsPV st)) ∧ StOut (ltT t) ns k st) ∧
    List.lookup (Str.ofString "places") σ' = some (SV.ol c₂ (natsPV ((ns.take k).map (LN (ltT t) ns))))) ⟨by fail "look", by fail "look", (i1_2 _ (by fail "look") (StOut.start hN)), by fail "look"⟩ ?_ ?_
   ·intro k q σ' hq oI Φ' kk'; refine o0_4 oI fun g1 g2 zc g4 => ?_; clear oI; refine o1_2 zc fun st g3 hst => ?_; clear zc
    rw [txs_get] at hq
    cases ek : ns[k]? with
    | none => rw [ek] at hq; cases hq
    | some p =>
     rw [ek] at hq
     cases hq
     have hpl : p.length ≤ 5 := mem_len hN hn (List.mem_of_getElem? ek)
     have hk6 : k < 6 := by have := (List.getElem?_eq_some_iff.mp ek).1; exact Om.ltEqLe (by assumption) (by assumption) (by decide)
     have hpm := List.mem_of_getElem? ek
     refine Asg.name (by fail "wr") ?_
     fail "e"
     refine Ev.borrowD (by fail "look") ?_
     fail "e"
     refine SubS.dict (x := "starts") (by fail "look") (p := .int (LP (ltT t) ns p : Int)) (by unfold startsPV; rw [dget_S (g := fun m : Nat => PV.int (m : Int)), hst.get hN hk6 ek]; rfl) ?_
     fail "e"
     refine SubS.of (SubP.dict (p := entPV (entE ns tk p 6)) (by unfold profPV; rw [dget_S (g := entPV), kget_map, if_pos hpm]; rfl) ?_)
     fail "e"
     refine SubS.of (SubP.tup (k := 4) (p := .dict (partsPV (entE ns tk p 6).ps)) (by decide) (by rfl) ?_)
     fail "e"
     with_reducible refine Ex1.forI ?_
     with_reducible refine EvI.of ?_
     fail "e"
     refine ⟨_, IterP.list, ?_⟩
     have hgen := @entE_some ns tk p
     have hgen0 := @entE_none ns tk p
     have hlk : ∀ it, dget (partsPV (entE ns tk p 6).ps) (S it) = (kget (entE ns tk p 6).ps it).map cntN := fun it => by unfold partsPV; exact dget_S
     refine forL.inv (fun m σ' => List.lookup (Str.ofString "profile") σ' = some (SV.fz (PV.dict (profPV (ns.map fun p => (p, entE ns tk p 6))))) ∧ List.lookup (Str.ofString "order") σ' = some (SV.fz (.list (ord.map fun it => PV.str (S it)))) ∧
      List.lookup (Str.ofString "name") σ' = some (SV.fz (.str (S p))) ∧ List.lookup (Str.ofString "parts") σ' = some (SV.fz (PV.dict (partsPV (entE ns tk p 6).ps))) ∧
      List.lookup (Str.ofString "ahead") σ' = some (SV.fz (.int ((LP (ltT t) ns p + sumC ns p (ord.take m) : Nat) : Int))) ∧
      (∃ st, List.lookup (Str.ofString "starts") σ' = some (SV.od c₁ (startsPV st)) ∧ StIn (ltT t) ns ord k m p st) ∧
      List.lookup (Str.ofString "places") σ' = some (SV.ol c₂ (natsPV ((ns.take k).map (LN (ltT t) ns) ++ if [] ∈ ord.take m then [LN (ltT t) ns p] else []))))
      ⟨by fail "look", by fail "look", by fail "look", by fail "look", by fail "look", (i1_2 st (by fail "look") hst.in_), by rw [List.take_zero, if_neg (by simp), List.append_nil]; fail "look"⟩ ?_ ?_
     ·generalize entE ns tk p 6 = E at *
      intro m q σ'' hq oI Φ'' kk''; refine o0_7 oI fun m1 m2 m3 m4 m5 zf m7 => ?_; clear oI; refine o1_2 zf fun st' m6 hst' => ?_; clear zf
      rw [List.getElem?_map] at hq
      cases em : ord[m]? with
      | none => rw [em] at hq; cases hq
      | some it =>
       rw [em] at hq
       have hq2 : q = .str (S it) := (Option.some.inj hq).symm
       subst hq2
       have hm4 : m < 4 := by have := (List.getElem?_eq_some_iff.mp em).1; exact Om.ltEqLe (by assumption) (by assumption) (by decide)
       have hitl : it.length ≤ 1 := by
        rcases List.mem_cons.mp (hO.pm.mem_iff.mp (List.mem_of_getElem? em)) with r | r
        ·rw [r]; simp
        ·refine o1_2 (List.mem_map.mp r) fun c _ zc => ?_; obtain rfl := zc; simp
       refine Asg.name (by fail "wr") ?_
       fail "e"
       have hcn : ∀ l : List Nat, sumC ns p (ord.take (m + 1)) = sumC ns p (ord.take m) + cN ns p it := fun _ => sumC_succ em
       have hxl : (natsPV ((ns.take k).map (LN (ltT t) ns) ++ if [] ∈ ord.take m then [LN (ltT t) ns p] else [])).length ≤ 64 := by
        rw [natsPV, List.length_map, List.length_append, List.length_map, List.length_take]
        split <;> simp <;> with_reducible exact Nat.le_trans (Nat.min_le_right _ _) (Om.eqLe (by assumption) (by decide))
       cases hit : (it == lit "") with
       | true =>
        have hit : it = [] := eq_of_beq hit
        have hB : natsPV ((ns.take k).map (LN (ltT t) ns) ++ if [] ∈ ord.take (m + 1) then [LN (ltT t) ns p] else []) =
          natsPV ((ns.take k).map (LN (ltT t) ns) ++ if [] ∈ ord.take m then [LN (ltT t) ns p] else []) ++ [.int ((LP (ltT t) ns p + sumC ns p (ord.take m) : Nat) : Int)] := by
         rw [if_pos ((mem_succ em).mpr (.inr hit)), if_neg (hit ▸ hO.not_in em), List.append_nil, LN_eq hO hN.of_ (hit ▸ em)]
         unfold natsPV; rw [List.map_append]; rfl
        rw [hB] at kk''
        generalize natsPV ((ns.take k).map (LN (ltT t) ns) ++ if [] ∈ ord.take m then [LN (ltT t) ns p] else []) = xs at m7 kk'' hxl
        refine iteP rfl ?_
        fail "e"
        refine Ev.borrowL (by fail "look") ⟨_, MethS.list (x := "places") (by fail "look") F.slot_list_append F.type_list_append, KeepOk.builtin, ?_⟩
        fail "e"
        refine CallS.append (x := "places") (by fail "look") (Nat.le_trans hxl (by decide)) ?_
        fail "e"
        rw [hlk]
        cases hv : kget E.ps it with
        | none =>
         refine iteN (by decide) ?_
         fail "e"
         refine kk'' _ ⟨by fail "look", by fail "look", by fail "look", by fail "look", ?_, (i1_2 st' (by fail "look") (hst'.skip em (hgen0 hv))), by fail "look"⟩
         rw [sumC_succ em, hgen0 hv, Nat.add_zero]; fail "look"
        | some v =>
         refine iteP (show (Option.map cntN (some v)).isSome = true from rfl) ?_
         fail "e"
         refine Ev.borrowD (by fail "look") ?_
         fail "e"
         refine BinP.addSL (by exact Nat.le_trans (Nat.add_le_add (by first | assumption | exact Nat.le_of_eq (by assumption) | exact Nat.le_refl _) (by first | assumption | exact Nat.le_of_eq (by assumption) | exact Nat.le_refl _)) (by decide)) ?_
         refine SetS.dict (x := "starts") (by fail "look") (by rw [startsPV, List.length_map]; exact Nat.le_trans (by have := hst'.1; exact Om.bnd15 (by assumption) (by assumption) (by assumption) : _ ≤ 64) (by decide)) ?_
         rw [show dput (startsPV st') (S (p ++ it)) (.int ((LP (ltT t) ns p + sumC ns p (ord.take m) : Nat) : Int)) = startsPV (kput st' (p ++ it) (LP (ltT t) ns p + sumC ns p (ord.take m))) from dput_S (g := fun m : Nat => PV.int (m : Int))]
         fail "e"
         refine SubS.of (SubP.dict (p := cntN v) (by rw [hlk, hv]; rfl) ?_)
         fail "e"
         refine SubS.of (SubP.tup (k := 0) (p := .int (v.1 : Int)) (by decide) (by rfl) ?_)
         fail "e"
         refine kk'' _ ⟨by fail "look", by fail "look", by fail "look", by fail "look", ?_, (i1_2 _ (by fail "look") (hst'.put hO hN hn hk6 ek em)), by fail "look"⟩
         rw [sumC_succ em, ← hgen hv, ← Nat.add_assoc, Int.natCast_add]; fail "look"
       | false =>
        have hit : it ≠ [] := fun q => by rw [q] at hit; exact absurd hit (by decide)
        have hB : natsPV ((ns.take k).map (LN (ltT t) ns) ++ if [] ∈ ord.take (m + 1) then [LN (ltT t) ns p] else []) =
          natsPV ((ns.take k).map (LN (ltT t) ns) ++ if [] ∈ ord.take m then [LN (ltT t) ns p] else []) := by
         have : ([] ∈ ord.take (m + 1)) = ([] ∈ ord.take m) := propext ((mem_succ em).trans ⟨fun q => q.resolve_right hit, .inl⟩)
         simp only [this]
        rw [hB] at kk''
        generalize natsPV ((ns.take k).map (LN (ltT t) ns) ++ if [] ∈ ord.take m then [LN (ltT t) ns p] else []) = xs at m7 kk'' hxl
        refine iteN (by decide) ?_
        fail "e"
        rw [hlk]
        cases hv : kget E.ps it with
        | none =>
         refine iteN (by decide) ?_
         fail "e"
         refine kk'' _ ⟨by fail "look", by fail "look", by fail "look", by fail "look", ?_, (i1_2 st' (by fail "look") (hst'.skip em (hgen0 hv))), by fail "look"⟩
         rw [sumC_succ em, hgen0 hv, Nat.add_zero]; fail "look"
        | some v =>
         refine iteP (show (Option.map cntN (some v)).isSome = true from rfl) ?_
         fail "e"
         refine Ev.borrowD (by fail "look") ?_
         fail "e"
         refine BinP.addSL (by exact Nat.le_trans (Nat.add_le_add (by first | assumption | exact Nat.le_of_eq (by assumption) | exact Nat.le_refl _) (by first | assumption | exact Nat.le_of_eq (by assumption) | exact Nat.le_refl _)) (by decide)) ?_
         refine SetS.dict (x := "starts") (by fail "look") (by rw [startsPV, List.length_map]; exact Nat.le_trans (by have := hst'.1; exact Om.bnd15 (by assumption) (by assumption) (by assumption) : _ ≤ 64) (by decide)) ?_
         rw [show dput (startsPV st') (S (p ++ it)) (.int ((LP (ltT t) ns p + sumC ns p (ord.take m) : Nat) : Int)) = startsPV (kput st' (p ++ it) (LP (ltT t) ns p + sumC ns p (ord.take m))) from dput_S (g := fun m : Nat => PV.int (m : Int))]
         fail "e"
         refine SubS.of (SubP.dict (p := cntN v) (by rw [hlk, hv]; rfl) ?_)
         fail "e"
         refine SubS.of (SubP.tup (k := 0) (p := .int (v.1 : Int)) (by decide) (by rfl) ?_)
         fail "e"
         refine kk'' _ ⟨by fail "look", by fail "look", by fail "look", by fail "look", ?_, (i1_2 _ (by fail "look") (hst'.put hO hN hn hk6 ek em)), by fail "look"⟩
         rw [sumC_succ em, ← hgen hv, ← Nat.add_assoc, Int.natCast_add]; fail "look"
     ·rintro σ'' ⟨m1, m2, m3, m4, m5, ⟨st', m6, hst'⟩, m7⟩
      rw [List.length_map] at m7 hst'
      rw [hol] at hst'
      rw [List.take_length, if_pos (hO.pm.mem_iff.mpr (.head _))] at m7
      fail "e"
      refine kk' _ ⟨by fail "look", by fail "look", (i1_2 _ m6 (hst'.out hO hN hn hol ek)), ?_⟩
      rw [List.take_add_one, ek, List.map_append]; exact m7
   ·rintro σ'' ⟨g1, g2, ⟨st, g3, hst⟩, g4⟩
    rw [txs, List.length_map, List.take_length] at g4
    fail "e"
    refine Ev.own (by fail "look") rfl ?_
    exact h
end
section
variable {W : Wd} {n : Nat} {env : Env} {wr : List Str} {σ : Sto}
def tri (e k : Nat) (f : Nat → Nat → Int) : List Int := (List.range k).flatMap fun i => (List.range (i + e)).map (f i)
theorem tri_succ (e k : Nat) (f : Nat → Nat → Int) : tri e (k + 1) f = tri e k f ++ (List.range (k + e)).map (f k) := by
 unfold tri; rw [List.range_succ, List.flatMap_append]; simp
theorem tri_len (e : Nat) (f : Nat → Nat → Int) : ∀ k, k ≤ 6 → e ≤ 1 → (tri e k f).length ≤ 7 * k
 | 0, _, _ => by simp [tri]
 | k + 1, hk, he => by
  rw [tri_succ, List.length_append, List.length_map, List.length_range]
  have := tri_len e f k (by exact Nat.le_of_succ_le (by assumption)) he
  omega
def intsPV (l : List Int) : List PV := l.map .int
theorem intsPV_app (a b : List Int) : intsPV (a ++ b) = intsPV a ++ intsPV b := List.map_append
theorem intsPV_len (a : List Int) : (intsPV a).length = a.length := List.length_map _
theorem range_get0 {m j : Nat} {p : PV} (h : (rangePV 0 m)[j]? = some p) : j < m ∧ p = .int (j : Int) := by
 refine o0_2 (range_get h) fun h1 h2 => ?_
 exact ⟨h1, by rw [h2, Int.zero_add]⟩
theorem binds35 : Binds (top 35) ["ranks"] := fun name qual kV doc pm an cdv ct vals hv => by
 refine o1_1 (list1 hv) fun _ zb => ?_; obtain rfl := zb; rfl
def dueF (gt : Nat → Nat → Bool) (i j : Nat) : Int := if i = j then 0 else if gt i j then 1 else -1
theorem due_ok {f : Addr} (hf : FnAt W "_law_due" 35 f) (hle : W.Top "len" (.builtin "len")) (hra : W.Top "range" (.type "range"))
  {rk : List PV} (hk : rk.length = 6) {gt : Nat → Nat → Bool} (hg : ∀ i j p q, rk[i]? = some p → rk[j]? = some q → ∀ (Ψ : PV → Prop), Ψ (.bool (gt i j)) → CmpP W n .Gt p q Ψ) {Ψ : PV → Prop}
  (h : Ψ (.list (intsPV (tri 1 6 (dueF gt))))) : CallP W (n + 1) (.val (.ref f)) [.list rk] Ψ := by
 refine CallP.ob hf.toFnOb ["ranks"] binds35 fun qual L cdv => ?_
 refine Ex.cons ?_
 fail "ev"
 refine Ev.comp2 (CompSc.mk' (by with_unfolding_all rfl) (by with_unfolding_all rfl) (by decide)) (EvX.name (EvI.of ?_))
 fail "e"
 refine CallS.of (CallP.lenL (by rw [hk]; decide) ?_)
 rw [hk]
 fail "e"
 refine CallS.of (CallP.range1 ⟨_, IterP.range (m := 6) (by decide) (by decide) (by decide) (by decide) (by decide), ?_⟩)
 refine (i1_2 ([("ranks", .list rk)]) ⟨fun x q hx => ?_⟩ (fun C => ?_))
 ·rw [List.mem_singleton] at hx; cases hx
  exact ⟨by fail "look", by decide, fun q => by cases (show some NameKind.cell = some NameKind.local from q)⟩
 refine compB.inv (fun i σ' acc => List.lookup (Str.ofString "ranks") σ' = some (SV.fz (.list rk)) ∧ acc = intsPV (tri 1 i (dueF gt))) ⟨by fail "look", rfl⟩ ?_ ?_
 ·intro i q σ' acc hq oI Φ' kk'; refine o0_2 oI fun k1 zb => ?_; clear oI; obtain rfl := zb
  refine o0_2 (range_get0 hq) fun hi zb => ?_; obtain rfl := zb
  refine AsgX.name (by fail "wr") ?_
  refine CTs.yes ?_
  refine EvX.name ?_
  with_reducible refine EvI.of ?_
  fail "e"
  refine CallS.of (CallP.range1 ⟨_, IterP.range (m := i + 1) (by decide) (by decide) (by with_reducible exact Om.negLe (by decide)) (by with_reducible exact Om.succLt (by assumption) (by decide)) (by rfl), ?_⟩)
  refine compB.inv (fun j σ'' acc => List.lookup (Str.ofString "ranks") σ'' = some (SV.fz (.list rk)) ∧ List.lookup (Str.ofString "i") σ'' = some (SV.fz (.int (i : Int))) ∧ acc = intsPV (tri 1 i (dueF gt) ++ (List.range j).map (dueF gt i))) ⟨by fail "look", by fail "look", by simp⟩ ?_ ?_
  ·intro j q σ'' acc hq oI Φ'' kk''; refine o0_3 oI fun m1 m2 zc => ?_; clear oI; obtain rfl := zc
   refine o0_2 (range_get0 hq) fun hj zb => ?_; obtain rfl := zb
   refine AsgX.name (by fail "wr") ?_
   refine CTs.yes ?_
   have hlen := tri_len 1 (dueF gt) i (by with_reducible exact Nat.le_of_lt (by assumption)) (Nat.le_refl 1)
   refine ⟨by rw [intsPV_len, List.length_append, List.length_map, List.length_range]; exact Nat.le_trans (by exact Om.bnd6' (by assumption) (by assumption) (by assumption) : _ ≤ 64) (by decide), ?_⟩
   have fin : ∀ v : Int, v = dueF gt i j → Φ'' ((σ''.put (Str.ofString "j") (SV.fz (PV.int (j : Int))))) (intsPV (tri 1 i (dueF gt) ++ (List.range j).map (dueF gt i)) ++ [.int v]) := fun v hv => by
    refine kk'' _ _ ⟨by fail "look", by fail "look", ?_⟩
    rw [hv, List.range_succ, List.map_append, ← List.append_assoc, intsPV_app (_ ++ _)]; rfl
   obtain ⟨p, hp⟩ : ∃ p, rk[i]? = some p := ⟨_, List.getElem?_eq_getElem (by with_reducible exact Nat.lt_of_lt_of_eq (by assumption) (Eq.symm (by assumption)))⟩
   obtain ⟨q, hq'⟩ : ∃ p, rk[j]? = some p := ⟨_, List.getElem?_eq_getElem (by omega)⟩
   fail "e"
   cases hij : decide (i = j) with
   | true =>
    refine iteP rfl ?_
    fail "e"
    exact fin _ (by unfold dueF; rw [if_pos (by simpa using hij)])
   | false =>
    refine iteN (by decide) ?_
    fail "e"
    refine SubS.of (SubP.list (Int.natCast_nonneg _) (by with_reducible exact Om.castLt (by assumption) (by decide)) (by rw [Int.toNat_natCast]; exact hp) ?_)
    fail "e"
    refine SubS.of (SubP.list (Int.natCast_nonneg _) (by exact Om.castLt (Nat.lt_of_lt_of_le (by assumption : _ < _ + 1) (by assumption)) (by decide)) (by rw [Int.toNat_natCast]; exact hq') ?_)
    refine hg i j p q hp hq' _ (KTst.ife ?_)
    have hne : ¬ i = j := by simpa using hij
    cases hgt : gt i j with
    | true =>
     refine iteP rfl ?_
     fail "e"
     exact fin _ (by unfold dueF; rw [if_neg hne, hgt, if_pos rfl])
    | false =>
     refine iteN (by decide) ?_
     fail "e"
     exact fin _ (by unfold dueF; rw [if_neg hne, hgt, if_neg (by decide)])
  ·intro σ'' acc oI; refine o0_3 oI fun m1 m2 zc => ?_; clear oI; obtain rfl := zc
   rw [rangePV_len]
   refine kk' _ _ ⟨by fail "look", ?_⟩
   rw [tri_succ]
 ·intro σ' acc oI; refine o0_2 oI fun k1 zb => ?_; clear oI; obtain rfl := zb
  exact h
theorem binds37 : Binds (top 37) ["listing", "other"] := fun name qual kV doc pm an cdv ct vals hv => by
 refine o2_1 (list2 hv) fun _ _ zc => ?_; obtain rfl := zc; rfl
def diffN (a b : List Int) (k : Nat) : Nat := ((List.range k).filter fun i => a.getD i 0 != b.getD i 0).length
theorem diffN_succ (a b : List Int) (k : Nat) : diffN a b (k + 1) = diffN a b k + if a.getD k 0 != b.getD k 0 then 1 else 0 := by
 unfold diffN
 rw [List.range_succ, List.filter_append, List.length_append, List.filter_cons]
 split <;> rfl
theorem diffN_le (a b : List Int) (k : Nat) : diffN a b k ≤ k := Nat.le_trans (List.length_filter_le _ _) (Nat.le_of_eq List.length_range)
theorem otherwise_ok {f : Addr} (hf : FnAt W "_law_otherwise" 37 f) (hle : W.Top "len" (.builtin "len")) (hra : W.Top "range" (.type "range"))
  {a b : List Int} (ha : a.length = 15) (hb : b.length = 15) {Ψ : PV → Prop} (h : Ψ (.int (diffN a b 15 : Int))) : CallP W (n + 1) (.val (.ref f)) [.list (intsPV a), .list (intsPV b)] Ψ := by
 refine CallP.ob hf.toFnOb ["listing", "other"] binds37 fun qual L cdv => ?_
 refine Ex.cons ?_
 fail "e"
 refine Ev.comp1 (CompSc.mk' (by with_unfolding_all rfl) (by with_unfolding_all rfl) (by decide)) (EvX.name (EvI.of ?_))
 fail "e"
 refine CallS.of (CallP.lenL (by rw [intsPV_len, ha]; decide) ?_)
 rw [intsPV_len, ha]
 fail "e"
 refine CallS.of (CallP.range1 ⟨_, IterP.range (m := 15) (by decide) (by decide) (by decide) (by decide) (by decide), ?_⟩)
 refine (i1_2 ([("listing", .list (intsPV a)), ("other", .list (intsPV b))]) ⟨fun x q hx => ?_⟩ (fun C => ?_))
 ·rcases List.mem_cons.mp hx with hx | hx
  ·cases hx
   exact ⟨by fail "look", by decide, fun q => by cases (show some NameKind.cell = some NameKind.local from q)⟩
  ·rw [List.mem_singleton] at hx; cases hx
   exact ⟨by fail "look", by decide, fun q => by cases (show some NameKind.cell = some NameKind.local from q)⟩
 refine compB.inv (fun i σ' acc => List.lookup (Str.ofString "listing") σ' = some (SV.fz (.list (intsPV a))) ∧ List.lookup (Str.ofString "other") σ' = some (SV.fz (.list (intsPV b))) ∧ acc = List.replicate (diffN a b i) (.int 1)) ⟨by fail "look", by fail "look", rfl⟩ ?_ ?_
 ·intro i q σ' acc hq oI Φ' kk'; refine o0_3 oI fun k1 k2 zc => ?_; clear oI; obtain rfl := zc
  refine o0_2 (range_get0 hq) fun hi zb => ?_; obtain rfl := zb
  have gi : ∀ l : List Int, l.length = 15 → (intsPV l)[i]? = some (.int (l.getD i 0)) := fun l hl => by
   unfold intsPV; rw [List.getElem?_map, List.getD_eq_getElem?_getD, List.getElem?_eq_getElem (by with_reducible exact Nat.lt_of_lt_of_eq (by assumption) (Eq.symm (by assumption)))]; rfl
  refine AsgX.name (by fail "wr") ?_
  refine CTs.one ?_
  fail "e"
  refine SubS.of (SubP.list (Int.natCast_nonneg _) (by with_reducible exact Om.castLt (by assumption) (by decide)) (by rw [Int.toNat_natCast]; exact gi a ha) ?_)
  fail "e"
  refine SubS.of (SubP.list (Int.natCast_nonneg _) (by with_reducible exact Om.castLt (by assumption) (by decide)) (by rw [Int.toNat_natCast]; exact gi b hb) ?_)
  fail "e"
  have hs := diffN_succ a b i
  have hle2 := diffN_le a b i
  cases hne : (a.getD i 0 != b.getD i 0) with
  | true =>
   rw [hne, if_pos rfl] at hs
   refine iteP rfl ?_
   refine ⟨by rw [List.length_replicate]; exact Nat.le_trans (by exact Nat.le_trans (by assumption) (Nat.le_trans (Nat.le_of_lt (by assumption)) (by decide)) : _ ≤ 64) (by decide), ?_⟩
   fail "e"
   refine kk' _ _ ⟨by fail "look", by fail "look", ?_⟩
   rw [hs, List.replicate_succ']
  | false =>
   rw [hne, if_neg (by decide)] at hs
   refine iteN (by decide) ?_
   refine kk' _ _ ⟨by fail "look", by fail "look", ?_⟩
   rw [hs, Nat.add_zero]
 ·intro σ' acc oI; refine o0_3 oI fun k1 k2 zc => ?_; clear oI; obtain rfl := zc
  rw [rangePV_len]
  fail "e"
  have hle2 := diffN_le a b 15
  refine CallS.of (CallP.lenL (by rw [List.length_replicate]; with_reducible exact Om.castLt' (by assumption) (by decide)) ?_)
  rw [List.length_replicate]
  exact h
end
section
variable {W : Wd} {n : Nat} {env : Env} {wr : List Str} {σ : Sto}
abbrev Parts2 := List (List Nat × (Nat × Nat))
def apRow (t u : Tab) (x : List Nat × (Nat × Nat)) (ps : Parts2) : Nat := (ps.map fun y => if ltT t x.1 y.1 && ltT u y.1 x.1 then x.2.1 * y.2.1 else 0).sum
def apEnt (t u : Tab) (ps qs : Parts2) : Nat := (qs.map fun x => apRow t u x ps).sum
def apAll (t u : Tab) (E : List Nat → Ent) (ns : List (List Nat)) : Nat := (ns.map fun p => apEnt t u (E p).ps (E p).ps).sum
theorem apRow_succ {t u : Tab} {x : List Nat × (Nat × Nat)} {ps : Parts2} {m : Nat} {y : List Nat × (Nat × Nat)} (h : ps[m]? = some y) : apRow t u x (ps.take (m + 1)) = apRow t u x (ps.take m) + if ltT t x.1 y.1 && ltT u y.1 x.1 then x.2.1 * y.2.1 else 0 := by
 unfold apRow; rw [List.take_add_one, h, List.map_append, List.sum_append]; simp
theorem apEnt_succ {t u : Tab} {ps qs : Parts2} {m : Nat} {x : List Nat × (Nat × Nat)} (h : qs[m]? = some x) : apEnt t u ps (qs.take (m + 1)) = apEnt t u ps (qs.take m) + apRow t u x ps := by
 unfold apEnt; rw [List.take_add_one, h, List.map_append, List.sum_append]; simp
theorem apAll_succ {t u : Tab} {E : List Nat → Ent} {ns : List (List Nat)} {m : Nat} {p : List Nat} (h : ns[m]? = some p) : apAll t u E (ns.take (m + 1)) = apAll t u E (ns.take m) + apEnt t u (E p).ps (E p).ps := by
 unfold apAll; rw [List.take_add_one, h, List.map_append, List.sum_append]; simp
theorem item_key {sig l : List Nat} (hl : ∀ c ∈ l, c ∈ sig) (d : Nat) : itemAt l d ∈ keysL sig := by
 unfold itemAt keysL
 cases e : l.drop d with
 | nil => exact .head _
 | cons c r =>
  refine .tail _ (List.mem_map.mpr (i1_2 c (hl c ?_) rfl))
  have : c ∈ l.drop d := by rw [e]; exact .head _
  exact List.mem_of_mem_drop this
theorem cN_le (ns : List (List Nat)) (p it : List Nat) : cN ns p it ≤ 6 := Nat.le_trans (List.length_filter_le _ _) (Nat.le_of_eq List.length_range)
theorem EPos.zero : EPos .zero := fun it v h => by cases h
theorem entE_parts {sig : List Nat} {ns : List (List Nat)} (hN : NamesOk sig ns) (tk : Nat → Nat) (p : List Nat) {x : List Nat × (Nat × Nat)} (h : x ∈ (entE ns tk p 6).ps) :
  x.1 ∈ keysL sig ∧ x.2.1 = cN ns p x.1 ∧ kget (entE ns tk p 6).ps x.1 = some x.2 := by
 have hok : EntOk (entE ns tk p 6) := by rw [entE_fold]; exact foldE_ok _ _ _ _ _ .zero
 have hg := kget_mem hok.nd (k := x.1) (v := x.2) h
 have hc := entE_some hg
 refine ⟨?_, hc, hg⟩
 have hp : EPos (entE ns tk p 6) := by rw [entE_fold]; exact foldE_pos _ _ _ _ _ .zero
 have h1 := hp _ _ hg
 rw [hc] at h1
 unfold cN at h1
 refine o1_1 (List.exists_mem_of_length_pos h1) fun j hj => ?_
 have := (List.mem_filter.mp hj).2
 simp only [Bool.and_eq_true, beq_iff_eq] at this
 rw [← this.2]
 refine item_key (fun c hc => ?_) _
 rw [List.getD_eq_getElem?_getD] at hc
 cases e : ns[j]? with
 | none => rw [e] at hc; cases hc
 | some l => rw [e] at hc; exact hN.of_ l (List.mem_of_getElem? e) c hc
theorem mul_ok {a b : Nat} (h : a ≤ 6) : IntMulOk (a : Int) (b : Int) := by
 refine IntMulOk.of_left ?_
 have : ∀ a : Nat, a < 7 → Builtin.Int.intBits (a : Int) ≤ 64 := by decide
 exact this a (by with_reducible exact Nat.lt_of_le_of_lt (by assumption) (by decide))
theorem binds38 : Binds (top 38) ["profile", "table", "other"] := fun name qual kV doc pm an cdv ct vals hv => by
 refine o3_1 (list3 hv) fun _ _ _ zd => ?_; obtain rfl := zd; rfl
theorem apart_ok {f : Addr} (hf : FnAt W "_law_apart" 38 f) {sig : List Nat} {ns : List (List Nat)} {tk : Nat → Nat} {t u : Tab} (hn : ns.length = 6) (hN : NamesOk sig ns) {Ψ : PV → Prop} (h : Ψ (.int (apAll t u (fun p => entE ns tk p 6) ns : Int))) :
  CallP W (n + 1) (.val (.ref f)) [.dict (profPV (prof ns tk 6)), .dict (tabPV sig t), .dict (tabPV sig u)] Ψ := by
 rw [prof_eq hN 6 (by with_reducible exact Om.leEq (by assumption) (by decide)), show ns.take 6 = ns by rw [← hn, List.take_length]]
 refine CallP.ob hf.toFnOb ["profile", "table", "other"] binds38 fun qual L cdv => ?_
 refine Ex.cons ?_
 fail "e"
 with_reducible refine Ex1.forI ?_
 with_reducible refine EvI.of ?_
 fail "e"
 refine ⟨_, MethS.of (MethT.dict F.slot_dict_values F.type_dict_values), KeepOk.builtin, ?_⟩
 fail "e"
 refine CallS.of (CallP.values ⟨_, IterP.values, ?_⟩)
 refine forL.inv (fun k σ' => List.lookup (Str.ofString "table") σ' = some (SV.fz (.dict (tabPV sig t))) ∧ List.lookup (Str.ofString "other") σ' = some (SV.fz (.dict (tabPV sig u))) ∧
  List.lookup (Str.ofString "apart") σ' = some (SV.fz (.int ((apAll t u (fun p => entE ns tk p 6) (ns.take k) : Nat) : Int)))) ⟨by fail "look", by fail "look", by fail "look"⟩ ?_ ?_
 ·intro k q σ' hq oI Φ' kk'; refine o0_3 oI fun g1 g2 g3 => ?_; clear oI
  rw [profPV, List.map_map, List.map_map, List.getElem?_map] at hq
  cases ek : ns[k]? with
  | none => rw [ek] at hq; cases hq
  | some p =>
   rw [ek] at hq
   have hq2 : q = entPV (entE ns tk p 6) := (Option.some.inj hq).symm
   subst hq2
   rw [apAll_succ ek] at kk'
   have hpt := fun x => @entE_parts sig ns hN tk p x
   have hpv : ∀ E : Ent, entPV E = .tuple [.int (E.c : Int), .int (E.s : Int), .int (E.t : Int), .int (E.q : Int), .dict (partsPV E.ps)] := fun _ => rfl
   rw [hpv]
   generalize entE ns tk p 6 = E at kk' hpt
   generalize apAll t u (fun p => entE ns tk p 6) (ns.take k) = z at kk' g3
   refine Asg.name (by fail "wr") ?_
   fail "e"
   refine SubS.of (SubP.tup (k := 4) (p := .dict (partsPV E.ps)) (by decide) (by rfl) ?_)
   fail "e"
   with_reducible refine Ex1.forI ?_
   with_reducible refine EvI.of ?_
   fail "e"
   refine ⟨_, IterP.dict, ?_⟩
   have hkey : ∀ (m : Nat) (q : PV), ((partsPV E.ps).map fun e => PV.str e.1)[m]? = some q → ∃ x, E.ps[m]? = some x ∧ q = PV.str (S x.1) := fun (m : Nat) (q : PV) hq => by
    rw [partsPV, List.map_map, List.getElem?_map] at hq
    cases em : E.ps[m]? with
    | none => rw [em] at hq; cases hq
    | some x => rw [em] at hq; exact (i1_2 x rfl ((Option.some.inj hq).symm))
   have hlk : ∀ x ∈ E.ps, dget (partsPV E.ps) (S x.1) = some (cntN x.2) := fun x hx => by unfold partsPV; rw [dget_S (g := cntN), (hpt x hx).2.2]; rfl
   refine forL.inv (fun m σ'' => List.lookup (Str.ofString "table") σ'' = some (SV.fz (.dict (tabPV sig t))) ∧ List.lookup (Str.ofString "other") σ'' = some (SV.fz (.dict (tabPV sig u))) ∧
    List.lookup (Str.ofString "parts") σ'' = some (SV.fz (.dict (partsPV E.ps))) ∧ List.lookup (Str.ofString "apart") σ'' = some (SV.fz (.int ((z + apEnt t u E.ps (E.ps.take m) : Nat) : Int)))) ⟨by fail "look", by fail "look", by fail "look", by fail "look"⟩ ?_ ?_
   ·intro m q σ'' hq oI Φ'' kk''; refine o0_4 oI fun m1 m2 m3 m4 => ?_; clear oI
    refine o1_2 (hkey m q hq) fun x ex zc => ?_; obtain rfl := zc
    have hx := List.mem_of_getElem? ex
    rw [apEnt_succ ex, ← Nat.add_assoc] at kk''
    generalize z + apEnt t u E.ps (E.ps.take m) = z2 at kk'' m4
    refine Asg.name (by fail "wr") ?_
    fail "e"
    with_reducible refine Ex1.forI ?_
    with_reducible refine EvI.of ?_
    fail "e"
    refine ⟨_, IterP.dict, ?_⟩
    refine forL.inv (fun m σ3 => List.lookup (Str.ofString "table") σ3 = some (SV.fz (.dict (tabPV sig t))) ∧ List.lookup (Str.ofString "other") σ3 = some (SV.fz (.dict (tabPV sig u))) ∧
     List.lookup (Str.ofString "parts") σ3 = some (SV.fz (.dict (partsPV E.ps))) ∧ List.lookup (Str.ofString "item") σ3 = some (SV.fz (.str (S x.1))) ∧ List.lookup (Str.ofString "apart") σ3 = some (SV.fz (.int ((z2 + apRow t u x (E.ps.take m) : Nat) : Int)))) ⟨by fail "look", by fail "look", by fail "look", by fail "look", by fail "look"⟩ ?_ ?_
    ·intro m' q σ3 hq oI Φ3 kk3; refine o0_5 oI fun a1 a2 a3 a4 a5 => ?_; clear oI
     refine o1_2 (hkey m' q hq) fun y ey zc => ?_; obtain rfl := zc
     have hy := List.mem_of_getElem? ey
     rw [apRow_succ ey, ← Nat.add_assoc] at kk3
     generalize z2 + apRow t u x (E.ps.take m') = z3 at kk3 a5
     refine Asg.name (by fail "wr") ?_
     fail "e"
     refine SubS.of (SubP.dict (tab_get (hpt x hx).1) ?_)
     fail "e"
     refine SubS.of (SubP.dict (tab_get (hpt y hy).1) ?_)
     fail "e"
     rw [S_cps, S_cps]
     have e1 : decide (tx t x.1 < tx t y.1) = ltT t x.1 y.1 := rfl
     rw [e1]
     cases h1 : ltT t x.1 y.1 with
     | false =>
      rw [h1, Bool.false_and, if_neg (by decide), Nat.add_zero] at kk3
      refine iteN (by decide) ?_
      refine iteN (by decide) ?_
      fail "e"
      exact kk3 _ ⟨by fail "look", by fail "look", by fail "look", by fail "look", by fail "look"⟩
     | true =>
      rw [h1, Bool.true_and] at kk3
      refine iteP (by decide) ?_
      fail "e"
      refine SubS.of (SubP.dict (tab_get (hpt x hx).1) ?_)
      fail "e"
      refine SubS.of (SubP.dict (tab_get (hpt y hy).1) ?_)
      fail "e"
      rw [S_cps, S_cps]
      have e2 : decide (tx u y.1 < tx u x.1) = ltT u y.1 x.1 := rfl
      rw [e2]
      cases h2 : ltT u y.1 x.1 with
      | false =>
       rw [h2, if_neg (by decide), Nat.add_zero] at kk3
       refine iteN (by decide) (iteN (by decide) ?_)
       fail "e"
       exact kk3 _ ⟨by fail "look", by fail "look", by fail "look", by fail "look", by fail "look"⟩
      | true =>
       rw [h2, if_pos rfl] at kk3
       refine iteP (by decide) ?_
       fail "e"
       refine iteP (by decide) ?_
       fail "e"
       refine SubS.of (SubP.dict (p := cntN x.2) (hlk x hx) ?_)
       fail "e"
       refine SubS.of (SubP.tup (k := 0) (p := .int (x.2.1 : Int)) (by decide) (by rfl) ?_)
       fail "e"
       refine SubS.of (SubP.dict (p := cntN y.2) (hlk y hy) ?_)
       fail "e"
       refine SubS.of (SubP.tup (k := 0) (p := .int (y.2.1 : Int)) (by decide) (by rfl) ?_)
       refine BinP.mulI (mul_ok (by rw [(hpt x hx).2.1]; exact cN_le _ _ _)) ?_
       rw [← Int.natCast_mul]
       fail "e"
       exact kk3 _ ⟨by fail "look", by fail "look", by fail "look", by fail "look", by fail "look"⟩
    ·rintro σ3 ⟨a1, a2, a3, a4, a5⟩
     rw [List.length_map, partsPV, List.length_map, List.take_length] at a5
     fail "e"
     exact kk'' _ ⟨by fail "look", by fail "look", by fail "look", by fail "look"⟩
   ·rintro σ'' ⟨m1, m2, m3, m4⟩
    rw [List.length_map, partsPV, List.length_map, List.take_length] at m4
    fail "e"
    exact kk' _ ⟨by fail "look", by fail "look", by fail "look"⟩
 ·rintro σ' ⟨g1, g2, g3⟩
  rw [List.length_map, profPV, List.length_map, List.length_map, List.take_length] at g3
  fail "e"
  exact h
end
section
def sm {α : Type} (l : List α) (f : α → Nat) : Nat := (l.map f).sum
section
variable {α β : Type}
theorem sm_nil (f : α → Nat) : sm [] f = 0 := rfl
theorem sm_cons (a : α) (l : List α) (f : α → Nat) : sm (a :: l) f = f a + sm l f := by unfold sm; rw [List.map_cons, List.sum_cons]
theorem sm_congr {l : List α} {f g : α → Nat} (h : ∀ a ∈ l, f a = g a) : sm l f = sm l g := by unfold sm; rw [List.map_congr_left h]
theorem sm_zero {l : List α} {f : α → Nat} (h : ∀ a ∈ l, f a = 0) : sm l f = 0 := by
 induction l with
 | nil => rfl
 | cons a l ih => rw [sm_cons, h a (.head _), ih fun b hb => h b (.tail _ hb)]
theorem sm_add (l : List α) (f g : α → Nat) : (sm l fun a => f a + g a) = sm l f + sm l g := by
 induction l with
 | nil => rfl
 | cons a l ih => rw [sm_cons, sm_cons, sm_cons, ih]; exact Nat.add_add_add_comm _ _ _ _
theorem sm_swap (l : List α) (m : List β) (f : α → β → Nat) : (sm l fun a => sm m fun b => f a b) = sm m fun b => sm l fun a => f a b := by
 induction l with
 | nil => rw [sm_nil, sm_zero]; intro b _; rfl
 | cons a l ih =>
  rw [sm_cons, ih, ← sm_add]
  exact sm_congr fun b _ => (sm_cons a l fun a => f a b).symm
theorem sm_mul (l : List α) (f : α → Nat) (k : Nat) : (sm l fun a => f a * k) = sm l f * k := by
 induction l with
 | nil => rw [sm_nil, sm_nil, Nat.zero_mul]
 | cons a l ih => rw [sm_cons, sm_cons, ih, Nat.add_mul]
theorem sm_mul' (l : List α) (f : α → Nat) (k : Nat) : (sm l fun a => k * f a) = k * sm l f := by
 rw [Nat.mul_comm, ← sm_mul]; exact sm_congr fun a _ => Nat.mul_comm _ _
theorem sm_filter (l : List α) (f : α → Bool) : (l.filter f).length = sm l fun a => (f a).toNat := by
 induction l with
 | nil => rfl
 | cons a l ih =>
  rw [List.filter_cons, sm_cons]
  cases f a with
  | true => rw [if_pos rfl, List.length_cons, ih]; show _ = 1 + _; with_reducible exact Nat.add_comm _ _
  | false => rw [if_neg (by decide), ih]; show _ = 0 + _; omega
theorem sm_hot [BEq α] [LawfulBEq α] {l : List α} (hn : l.Nodup) {a : α} (ha : a ∈ l) (g : α → Nat) : (sm l fun x => (a == x).toNat * g x) = g a := by
 induction l with
 | nil => cases ha
 | cons b l ih =>
  rw [List.nodup_cons] at hn
  rw [sm_cons]
  cases q : (a == b) with
  | true =>
   have e := eq_of_beq q
   rw [sm_zero (fun x hx => ?_)]
   ·rw [e]; simp
   ·cases r : (a == x) with
    | true => exact absurd ((eq_of_beq r).symm.trans e ▸ hx) hn.1
    | false => simp
  | false =>
   have ne : a ≠ b := fun r => by rw [r, beq_self_eq_true] at q; cases q
   rw [ih hn.2 ((List.mem_cons.mp ha).resolve_left ne)]; simp
end
def lcp : List Nat → List Nat → List Nat
 | c :: l, d :: m => if c = d then c :: lcp l m else []
 | _, _ => []
theorem lcp_pre : ∀ a b : List Nat, pre (lcp a b) a = true ∧ pre (lcp a b) b = true
 | [], b => by rw [show lcp [] b = [] from by cases b <;> rfl]; exact ⟨pre_nil _, pre_nil _⟩
 | c :: l, [] => ⟨pre_nil _, pre_nil _⟩
 | c :: l, d :: m => by
  unfold lcp
  by_cases h : c = d
  ·subst h
   rw [if_pos rfl, pre_cons, pre_cons]
   simpa using lcp_pre l m
  ·rw [if_neg h]; exact ⟨pre_nil _, pre_nil _⟩
theorem lcp_lt {lt : Lt} (h0 : lt [] [] = false) : ∀ a b : List Nat, ltN lt a b = lt (itemAt a (lcp a b).length) (itemAt b (lcp a b).length)
 | [], [] => h0.symm
 | [], d :: m => rfl
 | c :: l, [] => rfl
 | c :: l, d :: m => by
  show (if c = d then ltN lt l m else lt [c] [d]) = _
  unfold lcp
  by_cases h : c = d
  ·rw [if_pos h, if_pos h]; exact lcp_lt h0 l m
  ·rw [if_neg h, if_neg h]; rfl
theorem lcp_comm : ∀ a b : List Nat, lcp a b = lcp b a
 | [], [] => rfl
 | [], d :: m => rfl
 | c :: l, [] => rfl
 | c :: l, d :: m => by
  unfold lcp
  by_cases h : c = d
  ·subst h; rw [if_pos rfl, if_pos rfl, lcp_comm l m]
  ·rw [if_neg h, if_neg (Ne.symm h)]
theorem lcp_other : ∀ (a b p : List Nat), pre p a = true → pre p b = true → p ≠ lcp a b → itemAt a p.length = itemAt b p.length
 | [], [], p, _, _, _ => rfl
 | [], d :: m, [], _, _, h => absurd rfl h
 | [], d :: m, x :: p, h, _, _ => by rw [pre_cnil] at h; cases h
 | c :: l, [], [], _, _, h => absurd rfl h
 | c :: l, [], x :: p, _, h, _ => by rw [pre_cnil] at h; cases h
 | c :: l, d :: m, [], _, _, h => by
  unfold lcp at h
  by_cases q : c = d
  ·subst q; rfl
  ·rw [if_neg q] at h; exact absurd rfl h
 | c :: l, d :: m, x :: p, h1, h2, h => by
  rw [pre_cons] at h1 h2
  simp only [Bool.and_eq_true, decide_eq_true_eq] at h1 h2
  refine o0_2 h1 ?_; clear h1; intro za h1; obtain rfl := za
  refine o0_2 h2 ?_; clear h2; intro za h2; obtain rfl := za
  show itemAt l p.length = itemAt m p.length
  refine lcp_other l m p h1 h2 fun q => h ?_
  unfold lcp
  rw [if_pos rfl, q]
section
variable {sig : List Nat} {ns : List (List Nat)} {t u : Tab}
theorem pre_in (hN : NamesOk sig ns) {k : Nat} {l p : List Nat} (hk : ns[k]? = some l) (h : pre p l = true) : p ∈ ns := by
 have h1 : l.take p.length = p := by simpa [pre] using h
 rcases Nat.lt_or_ge p.length l.length with q | q
 ·rw [← h1]; exact List.mem_of_mem_take (prefix_in hN l.length k p.length l (Nat.le_refl _) hk q)
 ·rw [List.take_of_length_le q] at h1; rw [← h1]; exact List.mem_of_getElem? hk
theorem ltT_irr (t : Tab) (x : List Nat) : ltT t x x = false := decide_eq_false (List.lt_irrefl _)
def apB (t u : Tab) (x y : List Nat) : Bool := ltT t x y && ltT u y x
def apD (t u : Tab) (a b : List Nat) : Nat := (ltN (ltT t) a b && ltN (ltT u) b a).toNat
theorem apD_sum (hN : NamesOk sig ns) {i j : Nat} {a b : List Nat} (ha : ns[i]? = some a) (hb : ns[j]? = some b) :
  (sm ns fun p => (pre p a && pre p b && apB t u (itemAt a p.length) (itemAt b p.length)).toNat) = apD t u a b := by
 have hp := lcp_pre a b
 have e : ∀ p ∈ ns, (pre p a && pre p b && apB t u (itemAt a p.length) (itemAt b p.length)).toNat = (lcp a b == p).toNat * apD t u a b := fun p _ => by
  by_cases q : lcp a b = p
  ·subst q
   rw [hp.1, hp.2]
   unfold apD apB
   rw [lcp_lt (ltT_irr t _), lcp_lt (ltT_irr u _) b a, lcp_comm b a]
   simp
  ·have : (lcp a b == p) = false := by simpa using q
   rw [this]
   cases h1 : pre p a with
   | false => simp
   | true =>
    cases h2 : pre p b with
    | false => simp
    | true =>
     rw [lcp_other a b p h1 h2 (Ne.symm q)]
     unfold apB; rw [ltT_irr]; simp
 rw [sm_congr e]
 exact sm_hot hN.nodup (pre_in hN ha hp.1) fun _ => apD t u a b
theorem apEnt_sum (hN : NamesOk sig ns) (hn : ns.length = 6) (tk : Nat → Nat) (p : List Nat) :
  apEnt t u (entE ns tk p 6).ps (entE ns tk p 6).ps = sm (List.range 6) fun i => sm (List.range 6) fun j => (pre p (ns.getD i []) && pre p (ns.getD j []) && apB t u (itemAt (ns.getD i []) p.length) (itemAt (ns.getD j []) p.length)).toNat := by
 have hpt := fun x => @entE_parts sig ns hN tk p x
 have hok : EntOk (entE ns tk p 6) := by rw [entE_fold]; exact foldE_ok _ _ _ _ _ .zero
 have hmem : ∀ i, pre p (ns.getD i []) = true → i < 6 → itemAt (ns.getD i []) p.length ∈ (entE ns tk p 6).ps.map (·.1) := fun i hi h6 => by
  have : cN ns p (itemAt (ns.getD i []) p.length) ≠ 0 := by
   unfold cN
   intro q
   have := List.length_eq_zero_iff.mp q
   rw [List.filter_eq_nil_iff] at this
   exact this i (List.mem_range.mpr h6) (by rw [hi]; simp)
  refine o1_1 (entE_ex (tk := tk) this) fun v hv => ?_
  rcases Classical.em (itemAt (ns.getD i []) p.length ∈ (entE ns tk p 6).ps.map (·.1)) with q | q
  ·exact q
  ·rw [kget_none.mpr q] at hv; cases hv
 have hnd := hok.nd
 have hcs : ∀ x ∈ (entE ns tk p 6).ps, x.2.1 = cN ns p x.1 := fun x hx => (hpt x hx).2.1
 generalize (entE ns tk p 6).ps = ps at hnd hcs hmem
 have e1 : apEnt t u ps ps = sm (ps.map (·.1)) fun x => sm (ps.map (·.1)) fun y => cN ns p x * (cN ns p y * (apB t u x y).toNat) := by
  show sm ps _ = _
  unfold sm
  rw [List.map_map]
  congr 1
  refine List.map_congr_left fun x hx => ?_
  show (ps.map _).sum = ((ps.map (·.1)).map _).sum
  rw [List.map_map]
  congr 1
  refine List.map_congr_left fun y hy => ?_
  show (if apB t u x.1 y.1 = true then x.2.1 * y.2.1 else 0) = cN ns p x.1 * (cN ns p y.1 * (apB t u x.1 y.1).toNat)
  rw [← hcs x hx, ← hcs y hy]
  cases apB t u x.1 y.1 <;> simp
 rw [e1]
 generalize hks : ps.map (·.1) = ks at hnd hmem
 have hc : ∀ x, cN ns p x = sm (List.range 6) fun i => (pre p (ns.getD i []) && (itemAt (ns.getD i []) p.length == x)).toNat := fun x => sm_filter _ _
 have hot : ∀ (i : Nat) (g : List Nat → Nat), i < 6 → (sm ks fun x => (pre p (ns.getD i []) && (itemAt (ns.getD i []) p.length == x)).toNat * g x) = (pre p (ns.getD i [])).toNat * g (itemAt (ns.getD i []) p.length) := fun i g h6 => by
  cases hi : pre p (ns.getD i []) with
  | false => rw [sm_zero fun x _ => by simp]; simp
  | true =>
   simp only [Bool.true_and]
   rw [sm_hot hnd (hmem i hi h6)]; simp
 have e2 : ∀ x, (sm ks fun y => cN ns p x * (cN ns p y * (apB t u x y).toNat)) = cN ns p x * sm (List.range 6) fun j => (pre p (ns.getD j [])).toNat * (apB t u x (itemAt (ns.getD j []) p.length)).toNat := fun x => by
  rw [sm_mul']
  congr 1
  rw [show (fun y => cN ns p y * (apB t u x y).toNat) = fun y => sm (List.range 6) fun j => (pre p (ns.getD j []) && (itemAt (ns.getD j []) p.length == y)).toNat * (apB t u x y).toNat from by
   funext y; rw [hc, sm_mul], sm_swap]
  exact sm_congr fun j hj => hot j _ (List.mem_range.mp hj)
 rw [sm_congr fun x _ => e2 x]
 rw [show (fun x => cN ns p x * sm (List.range 6) fun j => (pre p (ns.getD j [])).toNat * (apB t u x (itemAt (ns.getD j []) p.length)).toNat) = fun x => sm (List.range 6) fun i => (pre p (ns.getD i []) && (itemAt (ns.getD i []) p.length == x)).toNat * sm (List.range 6) fun j => (pre p (ns.getD j [])).toNat * (apB t u x (itemAt (ns.getD j []) p.length)).toNat from by
  funext x; rw [sm_mul, ← hc], sm_swap]
 refine sm_congr fun i hi => ?_
 rw [hot i _ (List.mem_range.mp hi), ← sm_mul']
 refine sm_congr fun j _ => ?_
 cases pre p (ns.getD i []) <;> cases pre p (ns.getD j []) <;> simp
theorem apAll_sum (hN : NamesOk sig ns) (hn : ns.length = 6) (tk : Nat → Nat) : apAll t u (fun p => entE ns tk p 6) ns = sm (List.range 6) fun i => sm (List.range 6) fun j => apD t u (ns.getD i []) (ns.getD j []) := by
 show sm ns _ = _
 rw [sm_congr fun p _ => apEnt_sum (t := t) (u := u) hN hn tk p, sm_swap]
 refine sm_congr fun i hi => ?_
 rw [sm_swap]
 refine sm_congr fun j hj => ?_
 exact apD_sum hN (ns_get hn (List.mem_range.mp hi)) (ns_get hn (List.mem_range.mp hj))
end
end
section
variable {W : Wd} {n : Nat} {env : Env} {wr : List Str} {σ : Sto}
set_option genInjectivity false in
structure TCls (W : Wd) where
 C : Addr
 mN : Str → Option Value
 cls : ClsAt W "TupleComp" C mN
 fi : Addr
 fc : Addr
 init : mN "__init__" = some (.ref fi)
 comp : mN "compare" = some (.ref fc)
 mi : MtOb W (top2 2 0) .none fi
 mc : MtOb W (top2 2 1) .none fc
 sa : mN "__setattr__" = none
 ga : mN "__getattribute__" = none
 gt : mN "__getattr__" = none
 fl : mN "comp_select_list" = none
set_option genInjectivity false in
structure QCls (W : Wd) where
 C : Addr
 mN : Str → Option Value
 cls : ClsAt W "QName" C mN
 fi : Addr
 fl : Addr
 fg : Addr
 dT : Addr
 dO : ∃ o n, W.h₀.get? dT = some o ∧ o.data = .seq #[.none] n
 init : mN "__init__" = some (.ref fi)
 lt : mN "__lt__" = some (.ref fl)
 gt : mN "__gt__" = some (.ref fg)
 mi : MtOb W (top2 17 0) (.ref dT) fi
 ml : MtOb W (top2 17 5) .none fl
 mg : MtOb W (top2 17 7) .none fg
 sa : mN "__setattr__" = none
 ga : mN "__getattribute__" = none
 tx : mN "text" = none
abbrev tcI (p : PV) : PV := .inst "TupleComp" "comp_select_list" p
abbrev qnI (l : List Nat) : PV := .inst "QName" "text" (.str (S l))
theorem objB_csl : typeLookup (.type "object") "comp_select_list" = pure none := by rw [typeLookup_type, builtinLookup_eq_fast]; kernel_rfl
theorem objB_text : typeLookup (.type "object") "text" = pure none := by rw [typeLookup_type, builtinLookup_eq_fast]; kernel_rfl
theorem objB_compare : typeLookup (.type "object") "compare" = pure none := by rw [typeLookup_type, builtinLookup_eq_fast]; kernel_rfl
theorem objB_lt : typeLookup (.type "object") "__lt__" = pure (some (.builtin "object.__lt__")) := by rw [typeLookup_type, builtinLookup_eq_fast]; kernel_rfl
theorem objB_gt : typeLookup (.type "object") "__gt__" = pure (some (.builtin "object.__gt__")) := by rw [typeLookup_type, builtinLookup_eq_fast]; kernel_rfl
theorem TCls.make (T : TCls W) {p : PV} {Ψ : PV → Prop} (h : Ψ (tcI p)) : CallP W (n + 1) (.val (.ref T.C)) [p] Ψ := by
 refine CallP.make (fun u v => [("self", u), ("comp_select_list", v)]) T.cls T.init T.mi T.sa T.fl objB_csl (fun s name qual kV doc pm an cdv ct u v hk => BindsTo.of_eq rfl) (fun u v x hx => ?_) (by decide) (fun A s env Q a v hs hns hq => ?_) h
 ·simp only [List.mem_cons, List.not_mem_nil, or_false] at hx
  rcases hx with rfl | rfl <;> rfl
 ·have hk : env.scope.kind = .function := by rw [hs]; rfl
  have k1 : env.kindOf "self" = some .local := by unfold Env.kindOf; rw [hs]; rfl
  have k2 : env.kindOf "comp_select_list" = some .local := by unfold Env.kindOf; rw [hs]; rfl
  refine wpAny_execs_cons ?_
  refine plainObj_wpAny_Assign_Attribute ?_
  refine wpAny_Name (wpAny_loadName_local hk k2 hns (v := v) rfl ?_)
  refine wpAny_Name (wpAny_loadName_local hk k1 hns (v := .ref a) rfl ?_)
  exact wpAny_mono hq (fun _ s' h' => wpAny_execs_nil h') fun _ _ x => x
theorem QCls.make (T : QCls W) {l : List Nat} {Ψ : PV → Prop} (h : Ψ (qnI l)) : CallP W (n + 1) (.val (.ref T.C)) [.str (S l)] Ψ := by
 refine o2_2 T.dO fun od nd hod hds => ?_
 refine CallP.make (fun u v => [("self", u), ("text_or_uri", v), ("tag", .none)]) T.cls T.init T.mi T.sa T.tx objB_text (fun s name qual kV doc pm an cdv ct u v hk => BindsTo.of_defaults rfl (hk _ _ hod) hds rfl rfl) (fun u v x hx => ?_) (by decide) (fun A s env Q a v hs hns hq => ?_) h
 ·simp only [List.mem_cons, List.not_mem_nil, or_false] at hx
  rcases hx with rfl | rfl | rfl <;> rfl
 ·have hk : env.scope.kind = .function := by rw [hs]; rfl
  have k1 : env.kindOf "self" = some .local := by unfold Env.kindOf; rw [hs]; rfl
  have k2 : env.kindOf "text_or_uri" = some .local := by unfold Env.kindOf; rw [hs]; rfl
  have k3 : env.kindOf "tag" = some .local := by unfold Env.kindOf; rw [hs]; rfl
  refine wpAny_execs_cons ?_
  refine wpAny_If ?_
  refine wpAny_isTrue_value (wpAny_Name (wpAny_loadName_local hk k3 hns (v := .none) rfl (truthy_none ?_))) (by with_unfolding_all rfl)
  refine iteN (by decide) ?_
  refine wpAny_execs_nil ?_
  refine wpAny_execs_cons ?_
  refine plainObj_wpAny_Assign_Attribute ?_
  refine wpAny_Name (wpAny_loadName_local hk k2 hns (v := v) rfl ?_)
  refine wpAny_Name (wpAny_loadName_local hk k1 hns (v := .ref a) rfl ?_)
  exact wpAny_mono hq (fun _ s' h' => wpAny_execs_nil h') fun _ _ x => x
theorem binds_qlt : Binds (top2 17 5) ["self", "other"] := fun name qual kV doc pm an cdv ct vals hv => by
 refine o2_1 (list2 hv) fun _ _ zc => ?_; obtain rfl := zc; rfl
theorem binds_qgt : Binds (top2 17 7) ["self", "other"] := fun name qual kV doc pm an cdv ct vals hv => by
 refine o2_1 (list2 hv) fun _ _ zc => ?_; obtain rfl := zc; rfl
theorem QCls.lt_ok (T : QCls W) (hI : W.Top "isinstance" (.builtin "isinstance")) {a b : List Nat} {Ψ : PV → Prop} (h : Ψ (.bool (decide (a < b)))) : CallP W (n + 1) (.val (.ref T.fl)) [qnI a, qnI b] Ψ := by
 have top := T.cls.top_
 refine CallP.ob T.ml.fn ["self", "other"] binds_qlt fun qual L cdv => ?_
 refine Ex.cons ?_
 fail "e"
 refine Tst.val ?_
 fail "e"
 refine CallS.of (CallP.isInst T.cls (i1_2 true TruP.bool ?_))
 refine iteP rfl ?_
 fail "e"
 refine Ev.attr (p := .str (S a)) T.cls T.ga T.tx objB_text hand_str ?_
 refine Ev.var (by fail "look") ⟨rfl, ?_⟩
 refine Ev.attr (p := .str (S b)) T.cls T.ga T.tx objB_text hand_str ?_
 refine Ev.var (by fail "look") ⟨rfl, ?_⟩
 fail "e"
 rw [show (S a).cps.toList = a by simp [S], show (S b).cps.toList = b by simp [S]]
 exact h
theorem CmpP.ltQ (T : QCls W) (hI : W.Top "isinstance" (.builtin "isinstance")) {a b : List Nat} {Ψ : PV → Prop} (h : Ψ (.bool (decide (a < b)))) : CmpP W (n + 1) .Lt (qnI a) (qnI b) Ψ :=
 CmpP.own rfl (by decide) T.cls T.lt T.ml objB_lt (T.lt_ok hI (i1_2 _ rfl h))
theorem QCls.gt_ok (T : QCls W) (hI : W.Top "isinstance" (.builtin "isinstance")) {a b : List Nat} {Ψ : PV → Prop} (h : Ψ (.bool (decide (b < a)))) : CallP W (n + 1) (.val (.ref T.fg)) [qnI a, qnI b] Ψ := by
 have top := T.cls.top_
 refine CallP.ob T.mg.fn ["self", "other"] binds_qgt fun qual L cdv => ?_
 refine Ex.cons ?_
 fail "e"
 refine Tst.val ?_
 fail "e"
 refine CallS.of (CallP.isInst T.cls (i1_2 true TruP.bool ?_))
 refine iteP rfl ?_
 fail "e"
 refine Ev.attr (p := .str (S a)) T.cls T.ga T.tx objB_text hand_str ?_
 refine Ev.var (by fail "look") ⟨rfl, ?_⟩
 refine Ev.attr (p := .str (S b)) T.cls T.ga T.tx objB_text hand_str ?_
 refine Ev.var (by fail "look") ⟨rfl, ?_⟩
 fail "e"
 rw [show (S a).cps.toList = a by simp [S], show (S b).cps.toList = b by simp [S]]
 exact h
theorem CmpP.gtQ (T : QCls W) (hI : W.Top "isinstance" (.builtin "isinstance")) {a b : List Nat} {Ψ : PV → Prop} (h : Ψ (.bool (decide (b < a)))) : CmpP W (n + 1) .Gt (qnI a) (qnI b) Ψ :=
 CmpP.own rfl (by decide) T.cls T.gt T.mg objB_gt (T.gt_ok hI (i1_2 _ rfl h))
def cmpK (lt gt : Nat → Bool) : List (Nat × Int) → Int
 | [] => 0
 | (i, d) :: r => if lt i then -d else if gt i then d else cmpK lt gt r
def keyPV (ks : List (Nat × Int)) : PV := .list (ks.map fun k => .tuple [.int (k.1 : Int), .int k.2])
theorem binds_cmp : Binds (top2 2 1) ["self", "left", "right"] := fun name qual kV doc pm an cdv ct vals hv => by
 refine o3_1 (list3 hv) fun _ _ _ zd => ?_; obtain rfl := zd; rfl
theorem TCls.compare_ok (T : TCls W) {ks : List (Nat × Int)} {xs ys : List PV} {lt gt : Nat → Bool} (hk : ∀ k ∈ ks, k.1 < 64 ∧ ∃ p q, xs[k.1]? = some p ∧ ys[k.1]? = some q ∧
   (∀ Ψ : PV → Prop, Ψ (.bool (lt k.1)) → CmpP W n .Lt p q Ψ) ∧ (∀ Ψ : PV → Prop, Ψ (.bool (gt k.1)) → CmpP W n .Gt p q Ψ)) {Ψ : PV → Prop} (h : Ψ (.int (cmpK lt gt ks))) :
  CallP W (n + 1) (.val (.ref T.fc)) [tcI (keyPV ks), .tuple xs, .tuple ys] Ψ := by
 refine CallP.ob T.mc.fn ["self", "left", "right"] binds_cmp fun qual L cdv => ?_
 refine Ex.cons ?_
 with_reducible refine Ex1.forTI ?_
 with_reducible refine EvT'.of ?_
 refine Ev.attr (p := keyPV ks) T.cls T.ga T.fl objB_csl hand_list ?_
 refine Ev.var (by fail "look") ⟨rfl, ?_⟩
 have g1 : List.lookup (Str.ofString "left") ([Str.ofString "self", Str.ofString "left", Str.ofString "right"].zip ([tcI (keyPV ks), .tuple xs, .tuple ys].map SV.fz)) = some (SV.fz (.tuple xs)) := by fail "look"
 have g2 : List.lookup (Str.ofString "right") ([Str.ofString "self", Str.ofString "left", Str.ofString "right"].zip ([tcI (keyPV ks), .tuple xs, .tuple ys].map SV.fz)) = some (SV.fz (.tuple ys)) := by fail "look"
 generalize [Str.ofString "self", Str.ofString "left", Str.ofString "right"].zip ([tcI (keyPV ks), .tuple xs, .tuple ys].map SV.fz) = σ at g1 g2 ⊢
 rw [show keyPV ks = .list ((ks.map fun k => [PV.int (k.1 : Int), PV.int k.2]).map .tuple) by unfold keyPV; rw [List.map_map]; rfl]
 refine ⟨_, IterTP.list, ?_⟩
 induction ks generalizing σ with
 | nil =>
  refine forT.nil ?_
  fail "e"
  exact h
 | cons k ks ih =>
  refine o0_2 (hk k (.head _)) fun h64 zz => ?_; refine o2_4 zz fun p q hp hq hlt hgt => ?_; clear zz
  rw [List.map_cons]
  refine forT.cons ?_
  fail "e"
  refine SubS.of (SubP.tup (by with_reducible exact Om.castLt (by assumption) (by decide)) hp ?_)
  fail "e"
  refine SubS.of (SubP.tup (by with_reducible exact Om.castLt (by assumption) (by decide)) hq ?_)
  fail "e"
  refine hlt _ (KTst.ite ?_)
  cases el : lt k.1 with
  | true =>
   refine iteP rfl ?_
   fail "e"
   have : cmpK lt gt (k :: ks) = -k.2 := by show (if lt k.1 = true then -k.2 else _) = _; rw [el, if_pos rfl]
   rw [this] at h; exact h
  | false =>
   refine iteN (by decide) ?_
   fail "e"
   refine hgt _ (KTst.ite ?_)
   have e1 : cmpK lt gt (k :: ks) = if gt k.1 then k.2 else cmpK lt gt ks := by show (if lt k.1 = true then -k.2 else _) = _; rw [el, if_neg (by decide)]
   rw [e1] at h
   cases eg : gt k.1 with
   | true =>
    rw [eg, if_pos rfl] at h
    refine iteP rfl ?_
    fail "e"
    exact h
   | false =>
    rw [eg, if_neg (by decide)] at h
    refine iteN (by decide) ?_
    fail "e"
    exact ih (fun k' hk' => hk k' (.tail _ hk')) h _ (by fail "look") (by fail "look")
end
section
variable {W : Wd} {n : Nat} {env : Env} {wr : List Str} {σ : Sto}
structure RowsOk (W : Wd) (n : Nat) (rws : List PV) (lt gt : Nat → Nat → Nat → Bool) : Prop where
 len : rws.length = 6
 row : ∀ i, i < 6 → ∃ xs, rws[i]? = some (.tuple xs)
 col : ∀ i j c xs ys, i < 6 → j < 6 → c < 7 → rws[i]? = some (.tuple xs) → rws[j]? = some (.tuple ys) → ∃ p q, xs[c]? = some p ∧ ys[c]? = some q ∧
  (∀ Ψ : PV → Prop, Ψ (.bool (lt i j c)) → CmpP W n .Lt p q Ψ) ∧ (∀ Ψ : PV → Prop, Ψ (.bool (gt i j c)) → CmpP W n .Gt p q Ψ)
theorem binds33 : Binds (top 33) ["rows", "keys"] := fun name qual kV doc pm an cdv ct vals hv => by
 refine o2_1 (list2 hv) fun _ _ zc => ?_; obtain rfl := zc; rfl
theorem answers_ok {f : Addr} (hf : FnAt W "_law_answers" 33 f) (hle : W.Top "len" (.builtin "len")) (hra : W.Top "range" (.type "range")) (T : TCls W)
  {rws : List PV} {lt gt : Nat → Nat → Nat → Bool} (hR : RowsOk W n rws lt gt) {ks : List (Nat × Int)} (hks : ∀ k ∈ ks, k.1 < 7) {Ψ : PV → Prop} (h : Ψ (.list (intsPV (tri 1 6 (fun i j => cmpK (lt i j) (gt i j) ks))))) :
  CallP W (n + 2) (.val (.ref f)) [.list rws, keyPV ks] Ψ := by
 have hk := hR.len
 have top := T.cls.top_
 have keep := T.cls.keep
 refine CallP.ob hf.toFnOb ["rows", "keys"] binds33 fun qual L cdv => ?_
 refine Ex.cons ?_
 fail "e"
 refine CallS.of (T.make ?_)
 fail "e"
 refine Ev.comp2 (CompSc.mk' (by with_unfolding_all rfl) (by with_unfolding_all rfl) (by decide)) (EvX.name (EvI.of ?_))
 fail "e"
 refine CallS.of (CallP.lenL (by rw [hk]; decide) ?_)
 rw [hk]
 fail "e"
 refine CallS.of (CallP.range1 ⟨_, IterP.range (m := 6) (by decide) (by decide) (by decide) (by decide) (by decide), ?_⟩)
 refine (i1_2 ([("order", tcI (keyPV ks)), ("rows", .list rws)]) ⟨fun x q hx => ?_⟩ (fun C => ?_))
 ·rcases List.mem_cons.mp hx with hx | hx
  ·cases hx
   exact ⟨by fail "look", by decide, fun q => by cases (show some NameKind.cell = some NameKind.local from q)⟩
  ·rw [List.mem_singleton] at hx; cases hx
   exact ⟨by fail "look", by decide, fun q => by cases (show some NameKind.cell = some NameKind.local from q)⟩
 generalize hF : (fun i j => cmpK (lt i j) (gt i j) ks) = F at h
 refine compB.inv (fun i σ' acc => List.lookup (Str.ofString "rows") σ' = some (SV.fz (.list rws)) ∧ List.lookup (Str.ofString "order") σ' = some (SV.fz (tcI (keyPV ks))) ∧ acc = intsPV (tri 1 i F)) ⟨by fail "look", by fail "look", rfl⟩ ?_ ?_
 ·intro i q σ' acc hq oI Φ' kk'; refine o0_3 oI fun k1 k2 zc => ?_; clear oI; obtain rfl := zc
  refine o0_2 (range_get0 hq) fun hi zb => ?_; obtain rfl := zb
  refine AsgX.name (by fail "wr") ?_
  refine CTs.yes ?_
  refine EvX.name ?_
  with_reducible refine EvI.of ?_
  fail "e"
  refine CallS.of (CallP.range1 ⟨_, IterP.range (m := i + 1) (by decide) (by decide) (by with_reducible exact Om.negLe (by decide)) (by with_reducible exact Om.succLt (by assumption) (by decide)) (by rfl), ?_⟩)
  refine compB.inv (fun j σ'' acc => List.lookup (Str.ofString "rows") σ'' = some (SV.fz (.list rws)) ∧ List.lookup (Str.ofString "order") σ'' = some (SV.fz (tcI (keyPV ks))) ∧ List.lookup (Str.ofString "i") σ'' = some (SV.fz (.int (i : Int))) ∧ acc = intsPV (tri 1 i F ++ (List.range j).map (F i))) ⟨by fail "look", by fail "look", by fail "look", by simp⟩ ?_ ?_
  ·intro j q σ'' acc hq oI Φ'' kk''; refine o0_4 oI fun m1 m2 m3 zd => ?_; clear oI; obtain rfl := zd
   refine o0_2 (range_get0 hq) fun hj zb => ?_; obtain rfl := zb
   have hj6 : j < 6 := by exact Nat.lt_of_lt_of_le (by assumption : _ < _ + 1) (by assumption)
   refine AsgX.name (by fail "wr") ?_
   refine CTs.yes ?_
   have hlen := tri_len 1 F i (by with_reducible exact Nat.le_of_lt (by assumption)) (by with_reducible exact Nat.le_refl _)
   refine ⟨by rw [intsPV_len, List.length_append, List.length_map, List.length_range]; exact Nat.le_trans (by exact Om.bnd6 (by assumption) (by assumption) (by assumption) : _ ≤ 64) (by decide), ?_⟩
   refine o1_1 (hR.row i hi) fun xs hxs => ?_
   refine o1_1 (hR.row j hj6) fun ys hys => ?_
   fail "e"
   refine ⟨_, MethS.of (MethT.inst T.cls T.ga T.gt T.comp T.mc objB_compare (by decide)), T.mc.fn.keep, ?_⟩
   fail "e"
   refine SubS.of (SubP.list (Int.natCast_nonneg _) (by with_reducible exact Om.castLt (by assumption) (by decide)) (by rw [Int.toNat_natCast]; exact hxs) ?_)
   fail "e"
   refine SubS.of (SubP.list (Int.natCast_nonneg _) (by with_reducible exact Om.castLt (by assumption) (by decide)) (by rw [Int.toNat_natCast]; exact hys) ?_)
   fail "e"
   refine CallS.of (T.compare_ok (lt := lt i j) (gt := gt i j) (fun k hk' => ?_) ?_)
   ·have h7 := hks k hk'
    refine o2_1 (hR.col i j k.1 _ _ (by assumption) (by assumption) h7 hxs hys) fun p q hc => ?_
    exact ⟨by with_reducible exact Nat.lt_of_lt_of_le (by assumption) (by decide), p, q, hc⟩
   refine kk'' _ _ ⟨by fail "look", by fail "look", by fail "look", ?_⟩
   rw [List.range_succ, List.map_append, ← List.append_assoc, intsPV_app (_ ++ _)]
   subst hF; rfl
  ·intro σ'' acc oI; refine o0_4 oI fun m1 m2 m3 zd => ?_; clear oI; obtain rfl := zd
   rw [rangePV_len]
   refine kk' _ _ ⟨by fail "look", by fail "look", ?_⟩
   rw [tri_succ]
 ·intro σ' acc oI; refine o0_3 oI fun k1 k2 zc => ?_; clear oI; obtain rfl := zc
  exact h
theorem binds34 : Binds (top 34) ["rows", "keys"] := fun name qual kV doc pm an cdv ct vals hv => by
 refine o2_1 (list2 hv) fun _ _ zc => ?_; obtain rfl := zc; rfl
theorem backwards_ok {f : Addr} (hf : FnAt W "_law_backwards" 34 f) (hle : W.Top "len" (.builtin "len")) (hra : W.Top "range" (.type "range")) (T : TCls W)
  {rws : List PV} {lt gt : Nat → Nat → Nat → Bool} (hR : RowsOk W n rws lt gt) {ks : List (Nat × Int)} (hks : ∀ k ∈ ks, k.1 < 7) {Ψ : PV → Prop} (h : Ψ (.list (intsPV (tri 0 6 (fun i j => cmpK (lt j i) (gt j i) ks))))) :
  CallP W (n + 2) (.val (.ref f)) [.list rws, keyPV ks] Ψ := by
 have hk := hR.len
 have top := T.cls.top_
 have keep := T.cls.keep
 refine CallP.ob hf.toFnOb ["rows", "keys"] binds34 fun qual L cdv => ?_
 refine Ex.cons ?_
 fail "e"
 refine CallS.of (T.make ?_)
 fail "e"
 refine Ev.comp2 (CompSc.mk' (by with_unfolding_all rfl) (by with_unfolding_all rfl) (by decide)) (EvX.name (EvI.of ?_))
 fail "e"
 refine CallS.of (CallP.lenL (by rw [hk]; decide) ?_)
 rw [hk]
 fail "e"
 refine CallS.of (CallP.range1 ⟨_, IterP.range (m := 6) (by decide) (by decide) (by decide) (by decide) (by decide), ?_⟩)
 refine (i1_2 ([("order", tcI (keyPV ks)), ("rows", .list rws)]) ⟨fun x q hx => ?_⟩ (fun C => ?_))
 ·rcases List.mem_cons.mp hx with hx | hx
  ·cases hx
   exact ⟨by fail "look", by decide, fun q => by cases (show some NameKind.cell = some NameKind.local from q)⟩
  ·rw [List.mem_singleton] at hx; cases hx
   exact ⟨by fail "look", by decide, fun q => by cases (show some NameKind.cell = some NameKind.local from q)⟩
 generalize hF : (fun i j => cmpK (lt j i) (gt j i) ks) = F at h
 refine compB.inv (fun i σ' acc => List.lookup (Str.ofString "rows") σ' = some (SV.fz (.list rws)) ∧ List.lookup (Str.ofString "order") σ' = some (SV.fz (tcI (keyPV ks))) ∧ acc = intsPV (tri 0 i F)) ⟨by fail "look", by fail "look", rfl⟩ ?_ ?_
 ·intro i q σ' acc hq oI Φ' kk'; refine o0_3 oI fun k1 k2 zc => ?_; clear oI; obtain rfl := zc
  refine o0_2 (range_get0 hq) fun hi zb => ?_; obtain rfl := zb
  refine AsgX.name (by fail "wr") ?_
  refine CTs.yes ?_
  refine EvX.name ?_
  with_reducible refine EvI.of ?_
  fail "e"
  refine CallS.of (CallP.range1 ⟨_, IterP.range (m := i + 0) (by decide) (by decide) (by with_reducible exact Om.negLe (by decide)) (by with_reducible exact Om.castLt (by assumption) (by decide)) (by rfl), ?_⟩)
  refine compB.inv (fun j σ'' acc => List.lookup (Str.ofString "rows") σ'' = some (SV.fz (.list rws)) ∧ List.lookup (Str.ofString "order") σ'' = some (SV.fz (tcI (keyPV ks))) ∧ List.lookup (Str.ofString "i") σ'' = some (SV.fz (.int (i : Int))) ∧ acc = intsPV (tri 0 i F ++ (List.range j).map (F i))) ⟨by fail "look", by fail "look", by fail "look", by simp⟩ ?_ ?_
  ·intro j q σ'' acc hq oI Φ'' kk''; refine o0_4 oI fun m1 m2 m3 zd => ?_; clear oI; obtain rfl := zd
   refine o0_2 (range_get0 hq) fun hj zb => ?_; obtain rfl := zb
   have hj6 : j < 6 := by exact Nat.lt_trans (by assumption) (by assumption)
   refine AsgX.name (by fail "wr") ?_
   refine CTs.yes ?_
   have hlen := tri_len 0 F i (by with_reducible exact Nat.le_of_lt (by assumption)) (by with_reducible exact Nat.le_add_left _ _)
   refine ⟨by rw [intsPV_len, List.length_append, List.length_map, List.length_range]; exact Nat.le_trans (by exact Om.bnd6 (by assumption) (by assumption) (by assumption) : _ ≤ 64) (by decide), ?_⟩
   refine o1_1 (hR.row i hi) fun xs hxs => ?_
   refine o1_1 (hR.row j hj6) fun ys hys => ?_
   fail "e"
   refine ⟨_, MethS.of (MethT.inst T.cls T.ga T.gt T.comp T.mc objB_compare (by decide)), T.mc.fn.keep, ?_⟩
   fail "e"
   refine SubS.of (SubP.list (Int.natCast_nonneg _) (by with_reducible exact Om.castLt (by assumption) (by decide)) (by rw [Int.toNat_natCast]; exact hys) ?_)
   fail "e"
   refine SubS.of (SubP.list (Int.natCast_nonneg _) (by with_reducible exact Om.castLt (by assumption) (by decide)) (by rw [Int.toNat_natCast]; exact hxs) ?_)
   fail "e"
   refine CallS.of (T.compare_ok (lt := lt j i) (gt := gt j i) (fun k hk' => ?_) ?_)
   ·have h7 := hks k hk'
    refine o2_1 (hR.col j i k.1 _ _ (by assumption) (by assumption) h7 hys hxs) fun p q hc => ?_
    exact ⟨by with_reducible exact Nat.lt_of_lt_of_le (by assumption) (by decide), p, q, hc⟩
   refine kk'' _ _ ⟨by fail "look", by fail "look", by fail "look", ?_⟩
   rw [List.range_succ, List.map_append, ← List.append_assoc, intsPV_app (_ ++ _)]
   subst hF; rfl
  ·intro σ'' acc oI; refine o0_4 oI fun m1 m2 m3 zd => ?_; clear oI; obtain rfl := zd
   rw [rangePV_len]
   refine kk' _ _ ⟨by fail "look", by fail "look", ?_⟩
   rw [tri_succ]
 ·intro σ' acc oI; refine o0_3 oI fun k1 k2 zc => ?_; clear oI; obtain rfl := zc
  exact h
end
section
variable {W : Wd} {n : Nat} {env : Env} {wr : List Str} {σ : Sto}
theorem tri_congr {e k : Nat} {f g : Nat → Nat → Int} (h : ∀ i j, i < k → j < i + e → f i j = g i j) : tri e k f = tri e k g := by
 induction k with
 | zero => rfl
 | succ k ih =>
  rw [tri_succ, tri_succ, ih fun i j hi hj => h i j (by with_reducible exact Nat.lt_succ_of_lt (by assumption)) hj]
  congr 1
  exact List.map_congr_left fun j hj => h k j (by with_reducible exact Nat.lt_succ_self _) (List.mem_range.mp hj)
theorem dueF_cond (gt : Nat → Nat → Bool) (i j : Nat) : dueF gt i j = if i = j then 0 else cond (gt i j) 1 (-1) := by
 unfold dueF; cases gt i j <;> rfl
def dirN (x : Nat) : Int := 1 - 2 * ((x % 2 : Nat) : Int)
theorem dirN_or (x : Nat) : dirN x = 1 ∨ dirN x = -1 := by unfold dirN; omega
theorem dir_mul {x : Nat} {b : Int} : IntMulOk (dirN x) b := by
 refine IntMulOk.of_left ?_
 rcases dirN_or x with h | h <;> rw [h] <;> decide
theorem two_mul_ok {b : Int} : IntMulOk 2 b := IntMulOk.of_left (by decide)
structure Hands (ns : List (List Nat)) (ts : Nat → Tab) (lt gt : Nat → Nat → Nat → Bool) : Prop where
 hl : ∀ i j c, i < 6 → j < 6 → c < 6 → lt i j c = ltN (ltT (ts c)) (ns.getD i []) (ns.getD j [])
 hg : ∀ i j c, i < 6 → j < 6 → c < 6 → gt i j c = ltN (ltT (ts c)) (ns.getD j []) (ns.getD i [])
 lt6 : ∀ i j, i < 6 → j < 6 → lt i j 6 = decide ((ns.getD i []).length < (ns.getD j []).length)
 gt6 : ∀ i j, i < 6 → j < 6 → gt i j 6 = decide ((ns.getD j []).length < (ns.getD i []).length)
 tot : ∀ i j c, i < 6 → j < 6 → c < 6 → i ≠ j → ltN (ltT (ts c)) (ns.getD i []) (ns.getD j []) = !ltN (ltT (ts c)) (ns.getD j []) (ns.getD i [])
 irr : ∀ i c, i < 6 → c < 6 → ltN (ltT (ts c)) (ns.getD i []) (ns.getD i []) = false
 pl : ∀ i j c, i < 6 → j < 6 → c < 6 → ltN (ltT (ts c)) (ns.getD i []) (ns.getD j []) = decide (LN (ltT (ts c)) ns (ns.getD i []) < LN (ltT (ts c)) ns (ns.getD j []))
section
variable {ns : List (List Nat)} {ts : Nat → Tab} {lt gt : Nat → Nat → Nat → Bool}
theorem Hands.key1 (H : Hands ns ts lt gt) {h : Nat} (hh : h < 6) (x : Nat) :
  tri 1 6 (fun i j => cmpK (lt i j) (gt i j) [(h, dirN x)]) = tri 1 6 (dueF fun i j => decide (dirN x * (LN (ltT (ts h)) ns (ns.getD j []) : Int) < dirN x * (LN (ltT (ts h)) ns (ns.getD i []) : Int))) := by
 refine tri_congr fun i j hi hj => ?_
 have hj6 : j < 6 := by exact Nat.lt_of_lt_of_le (by assumption : _ < _ + 1) (by assumption)
 rw [dueF_cond]
 show (if lt i j h then -dirN x else if gt i j h then dirN x else 0) = _
 rw [H.hl i j h hi hj6 hh, H.hg i j h hi hj6 hh]
 by_cases e : i = j
 ·subst e; rw [H.irr i h hi hh]; simp
 ·rw [if_neg e]
  have t := H.tot i j h hi hj6 hh e
  have p1 := H.pl i j h hi hj6 hh
  have p2 := H.pl j i h hj6 hi hh
  generalize LN (ltT (ts h)) ns (ns.getD i []) = a at *
  generalize LN (ltT (ts h)) ns (ns.getD j []) = b at *
  generalize ltN (ltT (ts h)) (ns.getD i []) (ns.getD j []) = u at *
  generalize ltN (ltT (ts h)) (ns.getD j []) (ns.getD i []) = v at *
  subst t
  rcases dirN_or x with q | q <;> rw [q] <;> cases v
  ·have : a < b := of_decide_eq_true p1.symm
   have h2 : ¬ (1 : Int) * (b : Int) < 1 * (a : Int) := by exact Om.psLtN (by assumption)
   rw [decide_eq_false h2]; rfl
  ·have : b < a := of_decide_eq_true p2.symm
   have h2 : (1 : Int) * (b : Int) < 1 * (a : Int) := by exact Om.psLt (by assumption)
   rw [decide_eq_true h2]; rfl
  ·have : a < b := of_decide_eq_true p1.symm
   have h2 : (-1 : Int) * (b : Int) < -1 * (a : Int) := by exact Om.ngLt (by assumption)
   rw [decide_eq_true h2]; rfl
  ·have : b < a := of_decide_eq_true p2.symm
   have h2 : ¬ (-1 : Int) * (b : Int) < -1 * (a : Int) := by exact Om.ngLtN (by assumption)
   rw [decide_eq_false h2]; rfl
theorem Hands.key2 (H : Hands ns ts lt gt) {h : Nat} (hh : h < 6) (x y : Nat) :
  tri 1 6 (fun i j => cmpK (lt i j) (gt i j) [(6, dirN y), (h, dirN x)]) = tri 1 6 (dueF fun i j =>
   if dirN y * ((ns.getD i []).length : Int) == dirN y * ((ns.getD j []).length : Int) then
    (if dirN x * (LN (ltT (ts h)) ns (ns.getD i []) : Int) == dirN x * (LN (ltT (ts h)) ns (ns.getD j []) : Int) then false else decide (dirN x * (LN (ltT (ts h)) ns (ns.getD j []) : Int) < dirN x * (LN (ltT (ts h)) ns (ns.getD i []) : Int)))
   else decide (dirN y * ((ns.getD j []).length : Int) < dirN y * ((ns.getD i []).length : Int))) := by
 have k1 := H.key1 hh x
 refine tri_congr fun i j hi hj => ?_
 have hj6 : j < 6 := by exact Nat.lt_of_lt_of_le (by assumption : _ < _ + 1) (by assumption)
 rw [dueF_cond]
 show (if lt i j 6 then -dirN y else if gt i j 6 then dirN y else (if lt i j h then -dirN x else if gt i j h then dirN x else 0)) = _
 rw [H.lt6 i j hi hj6, H.gt6 i j hi hj6, H.hl i j h hi hj6 hh, H.hg i j h hi hj6 hh]
 by_cases e : i = j
 ·subst e; rw [H.irr i h hi hh]; simp
 ·rw [if_neg e]
  have t := H.tot i j h hi hj6 hh e
  have p1 := H.pl i j h hi hj6 hh
  have p2 := H.pl j i h hj6 hi hh
  generalize LN (ltT (ts h)) ns (ns.getD i []) = a at *
  generalize LN (ltT (ts h)) ns (ns.getD j []) = b at *
  generalize ltN (ltT (ts h)) (ns.getD i []) (ns.getD j []) = u at *
  generalize ltN (ltT (ts h)) (ns.getD j []) (ns.getD i []) = v at *
  generalize (ns.getD i []).length = c at *
  generalize (ns.getD j []).length = d at *
  subst t
  rcases Nat.lt_trichotomy c d with q | q | q
  ·have n1 : ¬ d < c := by with_reducible exact Nat.not_lt_of_lt (by assumption)
   rcases dirN_or y with w | w <;> rw [w]
   ·have m1 : ¬ (1 : Int) * (c : Int) = 1 * (d : Int) := by exact Om.psNe (by assumption)
    have m2 : ¬ (1 : Int) * (d : Int) < 1 * (c : Int) := by exact Om.psLtN (by assumption)
    rw [decide_eq_true q, beq_false_of_ne m1, decide_eq_false m2]; rfl
   ·have m1 : ¬ (-1 : Int) * (c : Int) = -1 * (d : Int) := by exact Om.ngNe (by assumption)
    have m2 : (-1 : Int) * (d : Int) < -1 * (c : Int) := by exact Om.ngLt (by assumption)
    rw [decide_eq_true q, beq_false_of_ne m1, decide_eq_true m2]; rfl
  ·subst q
   have n1 : ¬ c < c := by omega
   rw [decide_eq_false n1, beq_self_eq_true]
   rcases dirN_or x with w | w <;> rw [w] <;> cases v
   ·have : a < b := of_decide_eq_true p1.symm
    have h1 : ¬ (1 : Int) * (a : Int) = 1 * (b : Int) := by exact Om.psNe (by assumption)
    have h2 : ¬ (1 : Int) * (b : Int) < 1 * (a : Int) := by exact Om.psLtN (by assumption)
    rw [beq_false_of_ne h1, decide_eq_false h2]; rfl
   ·have : b < a := of_decide_eq_true p2.symm
    have h1 : ¬ (1 : Int) * (a : Int) = 1 * (b : Int) := by exact Om.psNe' (by assumption)
    have h2 : (1 : Int) * (b : Int) < 1 * (a : Int) := by exact Om.psLt (by assumption)
    rw [beq_false_of_ne h1, decide_eq_true h2]; rfl
   ·have : a < b := of_decide_eq_true p1.symm
    have h1 : ¬ (-1 : Int) * (a : Int) = -1 * (b : Int) := by exact Om.ngNe (by assumption)
    have h2 : (-1 : Int) * (b : Int) < -1 * (a : Int) := by exact Om.ngLt (by assumption)
    rw [beq_false_of_ne h1, decide_eq_true h2]; rfl
   ·have : b < a := of_decide_eq_true p2.symm
    have h1 : ¬ (-1 : Int) * (a : Int) = -1 * (b : Int) := by exact Om.ngNe' (by assumption)
    have h2 : ¬ (-1 : Int) * (b : Int) < -1 * (a : Int) := by exact Om.ngLtN (by assumption)
    rw [beq_false_of_ne h1, decide_eq_false h2]; rfl
  ·have n1 : ¬ c < d := by with_reducible exact Nat.not_lt_of_lt (by assumption)
   rcases dirN_or y with w | w <;> rw [w]
   ·have m1 : ¬ (1 : Int) * (c : Int) = 1 * (d : Int) := by exact Om.psNe' (by assumption)
    have m2 : (1 : Int) * (d : Int) < 1 * (c : Int) := by exact Om.psLt (by assumption)
    rw [decide_eq_false n1, decide_eq_true q, beq_false_of_ne m1, decide_eq_true m2]; rfl
   ·have m1 : ¬ (-1 : Int) * (c : Int) = -1 * (d : Int) := by exact Om.ngNe' (by assumption)
    have m2 : ¬ (-1 : Int) * (d : Int) < -1 * (c : Int) := by exact Om.ngLtN (by assumption)
    rw [decide_eq_false n1, decide_eq_true q, beq_false_of_ne m1, decide_eq_false m2]; rfl
def lstF (ns : List (List Nat)) (t : Tab) (i j : Nat) : Int := if ltN (ltT t) (ns.getD j []) (ns.getD i []) then -1 else 1
theorem Hands.back (H : Hands ns ts lt gt) {h : Nat} (hh : h < 6) (x : Nat) :
  (tri 0 6 (fun i j => cmpK (lt j i) (gt j i) [(h, dirN x)])).map (fun a => dirN x * a) = tri 0 6 (lstF ns (ts h)) := by
 have : ∀ k (f : Nat → Nat → Int) (c : Int), (tri 0 k f).map (fun a => c * a) = tri 0 k fun i j => c * f i j := fun k f c => by
  unfold tri; rw [List.map_flatMap]; congr 1; funext i; rw [List.map_map]; rfl
 rw [this]
 refine tri_congr fun i j hi hj => ?_
 have hj6 : j < 6 := by exact Nat.lt_trans (by assumption) (by assumption)
 unfold lstF
 show dirN x * (if lt j i h then -dirN x else if gt j i h then dirN x else 0) = _
 rw [H.hl j i h hj6 hi hh, H.hg j i h hj6 hi hh]
 have t := H.tot j i h hj6 hi hh (by omega)
 generalize ltN (ltT (ts h)) (ns.getD i []) (ns.getD j []) = u at *
 generalize ltN (ltT (ts h)) (ns.getD j []) (ns.getD i []) = v at *
 subst t
 rcases dirN_or x with q | q <;> rw [q] <;> cases u <;> simp
end
end
section
def enc (t : Tab) (l : List Nat) : List Nat := l.flatMap (spl t.m) ++ t.end_
def pfx (t : Tab) (x y : List Nat) : Bool := (tx t x).isPrefixOf (tx t y)
def PF0 (t : Tab) : Bool := (keysL C14).all fun x => (keysL C14).all fun y => x == y || !pfx t x y || x == []
def PF1 (t : Tab) : Bool := (keysL C14).all fun x => (keysL C14).all fun y => x == y || !pfx t x y
theorem lex_app : ∀ {u v X Y : List Nat}, ¬ v <+: u → (u <+: v → X = []) → (decide (u ++ X < v ++ Y) = decide (u < v) ∧ decide (v ++ Y < u ++ X) = decide (v < u))
 | [], [], X, Y, h1, h2 => absurd (List.prefix_refl _) h1
 | [], d :: v, X, Y, h1, h2 => by
  have : X = [] := h2 (List.nil_prefix)
  subst this
  exact ⟨by simp, by simp⟩
 | c :: u, [], X, Y, h1, h2 => absurd (List.nil_prefix) h1
 | c :: u, d :: v, X, Y, h1, h2 => by
  rw [List.cons_append, List.cons_append]
  by_cases e : c = d
  ·subst e
   have ih := @lex_app u v X Y (fun q => h1 (by simpa using q)) (fun q => h2 (by simpa using q))
   simpa using ih
  ·have e' : ¬ d = c := fun q => e q.symm
   simp only [List.cons_lt_cons_iff, e, e', false_and, or_false]
   constructor <;> first | trivial | rfl
theorem app_lt : ∀ (u a b : List Nat), (u ++ a < u ++ b) ↔ a < b
 | [], _, _ => Iff.rfl
 | c :: u, a, b => by rw [List.cons_append, List.cons_append, List.cons_lt_cons_iff]; simp [app_lt u a b]
theorem keysL_mono {sig : List Nat} (hs : ∀ c ∈ sig, c ∈ C14) {x : List Nat} (h : x ∈ keysL sig) : x ∈ keysL C14 := by
 rcases List.mem_cons.mp h with h | h
 ·subst h; exact .head _
 ·refine o1_2 (List.mem_map.mp h) fun c hc zc => ?_; obtain rfl := zc
  exact .tail _ (List.mem_map.mpr (i1_2 c (hs c hc) rfl))
theorem PF0_use {t : Tab} (h : PF0 t = true) {x y : List Nat} (hx : x ∈ keysL C14) (hy : y ∈ keysL C14) (hne : x ≠ y) (hp : tx t x <+: tx t y) : x = [] := by
 have := List.all_eq_true.mp (List.all_eq_true.mp h x hx) y hy
 have e1 : (x == y) = false := by simpa using hne
 have e2 : pfx t x y = true := List.isPrefixOf_iff_prefix.mpr hp
 rw [e1, e2] at this
 simpa using this
theorem PF1_use {t : Tab} (h : PF1 t = true) {x y : List Nat} (hx : x ∈ keysL C14) (hy : y ∈ keysL C14) (hne : x ≠ y) (hp : tx t x <+: tx t y) : False := by
 have := List.all_eq_true.mp (List.all_eq_true.mp h x hx) y hy
 have e1 : (x == y) = false := by simpa using hne
 have e2 : pfx t x y = true := List.isPrefixOf_iff_prefix.mpr hp
 rw [e1, e2] at this
 cases this
theorem key_of {c : Nat} (h : c ∈ C14) : [c] ∈ keysL C14 := .tail _ (List.mem_map.mpr (i1_2 c h rfl))
theorem enc_cons (t : Tab) (c : Nat) (l : List Nat) : enc t (c :: l) = tx t [c] ++ enc t l := by unfold enc; rw [List.flatMap_cons, List.append_assoc]; rfl
theorem enc_nil (t : Tab) : enc t [] = tx t [] := rfl
theorem enc_ltX {t : Tab} {X Y : List Nat} (hpf : ∀ x ∈ keysL C14, ∀ y ∈ keysL C14, x ≠ y → tx t x <+: tx t y → x = [] ∧ X = [] ∧ Y = []) :
  ∀ a b : List Nat, a ≠ b → (∀ c ∈ a, c ∈ C14) → (∀ c ∈ b, c ∈ C14) → decide (enc t a ++ X < enc t b ++ Y) = ltN (ltT t) a b
 | [], [], h, _, _ => absurd rfl h
 | [], d :: m, h, ha, hb => by
  have kd := key_of (hb d (.head _))
  have k0 : [] ∈ keysL C14 := .head _
  rw [enc_nil, enc_cons, List.append_assoc]
  exact (lex_app (fun q => by cases (hpf _ kd _ k0 (by simp) q).1) (fun q => (hpf _ k0 _ kd (by simp) q).2.1)).1
 | c :: l, [], h, ha, hb => by
  have kc := key_of (ha c (.head _))
  have k0 : [] ∈ keysL C14 := .head _
  rw [enc_nil, enc_cons, List.append_assoc]
  exact (lex_app (fun q => by cases (hpf _ kc _ k0 (by simp) q).1) (fun q => (hpf _ k0 _ kc (by simp) q).2.2)).2
 | c :: l, d :: m, h, ha, hb => by
  have kc := key_of (ha c (.head _))
  have kd := key_of (hb d (.head _))
  rw [enc_cons, enc_cons, List.append_assoc, List.append_assoc]
  show _ = if c = d then ltN (ltT t) l m else ltT t [c] [d]
  by_cases e : c = d
  ·subst e
   rw [if_pos rfl, ← enc_ltX hpf l m (fun q => h (by rw [q])) (fun x hx => ha x (.tail _ hx)) (fun x hx => hb x (.tail _ hx))]
   exact decide_eq_decide.mpr (app_lt _ _ _)
  ·rw [if_neg e]
   have hne : [c] ≠ [d] := fun q => e (by simpa using q)
   exact (lex_app (fun q => by cases (hpf _ kd _ kc hne.symm q).1) (fun q => by cases (hpf _ kc _ kd hne q).1)).1
theorem enc_lt {t : Tab} (h : PF0 t = true) {a b : List Nat} (hne : a ≠ b) (ha : ∀ c ∈ a, c ∈ C14) (hb : ∀ c ∈ b, c ∈ C14) : decide (enc t a < enc t b) = ltN (ltT t) a b := by
 have := enc_ltX (t := t) (X := []) (Y := []) (fun x hx y hy hn hp => ⟨PF0_use h hx hy hn hp, rfl, rfl⟩) a b hne ha hb
 simpa using this
theorem enc_lt1 {t : Tab} (h : PF1 t = true) (X Y : List Nat) {a b : List Nat} (hne : a ≠ b) (ha : ∀ c ∈ a, c ∈ C14) (hb : ∀ c ∈ b, c ∈ C14) : decide (enc t a ++ X < enc t b ++ Y) = ltN (ltT t) a b :=
 enc_ltX (fun x hx y hy hn hp => (PF1_use h hx hy hn hp).elim) a b hne ha hb
theorem ltN_irr {lt : Lt} (h : ∀ x, lt x x = false) : ∀ a : List Nat, ltN lt a a = false
 | [] => rfl
 | c :: l => by show (if c = c then ltN lt l l else _) = false; rw [if_pos rfl]; exact ltN_irr h l
theorem tx_inj {t : Tab} (h : PF0 t = true) {x y : List Nat} (hx : x ∈ keysL C14) (hy : y ∈ keysL C14) (hne : x ≠ y) : tx t x ≠ tx t y := fun q => by
 have h1 := PF0_use h hx hy hne (by rw [q]; exact List.prefix_refl _)
 have h2 := PF0_use h hy hx hne.symm (by rw [q]; exact List.prefix_refl _)
 exact hne (h1.trans h2.symm)
theorem ltT_tot {t : Tab} (h : PF0 t = true) {x y : List Nat} (hx : x ∈ keysL C14) (hy : y ∈ keysL C14) (hne : x ≠ y) : ltT t x y = !ltT t y x := by
 have ne := tx_inj h hx hy hne
 unfold ltT
 by_cases c : tx t x < tx t y
 ·have : ¬ tx t y < tx t x := fun d => List.lt_irrefl _ (List.lt_trans c d)
  simp [c, this]
 ·have : tx t y < tx t x := by
   by_cases d : tx t y < tx t x
   ·exact d
   ·exact absurd (List.le_antisymm (List.not_lt.mp d) (List.not_lt.mp c)) ne
  simp [c, this]
theorem ltN_tot {t : Tab} (h : PF0 t = true) : ∀ a b : List Nat, a ≠ b → (∀ c ∈ a, c ∈ C14) → (∀ c ∈ b, c ∈ C14) → ltN (ltT t) a b = !ltN (ltT t) b a
 | [], [], q, _, _ => absurd rfl q
 | [], d :: m, _, _, hb => ltT_tot h (.head _) (key_of (hb d (.head _))) (by simp)
 | c :: l, [], _, ha, _ => ltT_tot h (key_of (ha c (.head _))) (.head _) (by simp)
 | c :: l, d :: m, q, ha, hb => by
  show (if c = d then ltN (ltT t) l m else ltT t [c] [d]) = !(if d = c then ltN (ltT t) m l else ltT t [d] [c])
  by_cases e : c = d
  ·subst e
   rw [if_pos rfl, if_pos rfl]
   exact ltN_tot h l m (fun r => q (by rw [r])) (fun x hx => ha x (.tail _ hx)) (fun x hx => hb x (.tail _ hx))
  ·rw [if_neg e, if_neg (Ne.symm e)]
   exact ltT_tot h (key_of (ha c (.head _))) (key_of (hb d (.head _))) (fun r => e (by simpa using r))
theorem filter_lt {α : Type} {f g : α → Bool} : ∀ {l : List α}, (∀ a ∈ l, f a = true → g a = true) → (∃ a ∈ l, g a = true ∧ f a = false) → (l.filter f).length < (l.filter g).length
 | [], _, h => by refine o1_2 h fun a ha _ => ?_; clear h; cases ha
 | b :: l, hs, h => by
  have le : ∀ {l : List α}, (∀ a ∈ l, f a = true → g a = true) → (l.filter f).length ≤ (l.filter g).length := by
   intro l
   induction l with
   | nil => intro _; exact Nat.le_refl _
   | cons b l ih =>
    intro hs
    have i := ih fun a ha => hs a (.tail _ ha)
    rw [List.filter_cons, List.filter_cons]
    cases hf : f b with
    | true => rw [hs b (.head _) hf, if_pos rfl, if_pos rfl, List.length_cons, List.length_cons]; omega
    | false =>
     rw [if_neg (by decide)]
     split
     ·rw [List.length_cons]; omega
     ·exact i
  have hs' : ∀ a ∈ l, f a = true → g a = true := fun a ha => hs a (.tail _ ha)
  refine o1_3 h fun a ha hg hf => ?_; clear h
  rw [List.filter_cons, List.filter_cons]
  rcases List.mem_cons.mp ha with rfl | ha
  ·rw [hf, hg, if_neg (by decide), if_pos rfl, List.length_cons]
   have := le hs'; with_reducible exact Nat.lt_succ_of_le (by assumption)
  ·have i := filter_lt hs' (i1_3 a ha hg hf)
   cases hfb : f b with
   | true => rw [hs b (.head _) hfb, if_pos rfl, if_pos rfl, List.length_cons, List.length_cons]; with_reducible exact Nat.succ_lt_succ (by assumption)
   | false =>
    rw [if_neg (by decide)]
    split
    ·rw [List.length_cons]; with_reducible exact Nat.lt_succ_of_lt (by assumption)
    ·exact i
section
variable {ns sig : List (Nat)} {t : Tab}
theorem LN_lt {ns : List (List Nat)} {sig : List Nat} (hN : NamesOk sig ns) (hn : ns.length = 6) (hs : ∀ c ∈ sig, c ∈ C14) (h : PF0 t = true) {i j : Nat} (hi : i < 6) (hj : j < 6) :
  ltN (ltT t) (ns.getD i []) (ns.getD j []) = decide (LN (ltT t) ns (ns.getD i []) < LN (ltT t) ns (ns.getD j [])) := by
 have mem : ∀ k, k < 6 → ∀ c ∈ ns.getD k [], c ∈ C14 := fun k hk c hc => hs c (hN.of_ _ (List.mem_of_getElem? (ns_get hn hk)) c hc)
 have key : ∀ i j, i < 6 → j < 6 → ltN (ltT t) (ns.getD i []) (ns.getD j []) = true → LN (ltT t) ns (ns.getD i []) < LN (ltT t) ns (ns.getD j []) := fun i j hi hj q => by
  have hij : ns.getD i [] ≠ ns.getD j [] := fun r => by rw [r, ltN_irr (ltT_irr t)] at q; cases q
  refine filter_lt (fun k hk r => ?_) (i1_3 i (List.mem_range.mpr hi) q (ltN_irr (ltT_irr t) _))
  have hk := List.mem_range.mp hk
  have hki : ns.getD k [] ≠ ns.getD i [] := fun e => by rw [e, ltN_irr (ltT_irr t)] at r; cases r
  rw [← enc_lt h hij (mem i hi) (mem j hj)] at q
  rw [← enc_lt h hki (mem k hk) (mem i hi)] at r
  have lt := List.lt_trans (of_decide_eq_true r) (of_decide_eq_true q)
  have hkj : ns.getD k [] ≠ ns.getD j [] := fun e => by rw [e] at lt; exact List.lt_irrefl _ lt
  rw [← enc_lt h hkj (mem k hk) (mem j hj)]
  exact decide_eq_true lt
 by_cases e : ns.getD i [] = ns.getD j []
 ·rw [e, ltN_irr (ltT_irr t)]; simp
 ·have tot := ltN_tot h _ _ e (mem i hi) (mem j hj)
  cases q : ltN (ltT t) (ns.getD i []) (ns.getD j []) with
  | true => exact (decide_eq_true (key i j hi hj q)).symm
  | false =>
   rw [q] at tot
   have := key j i hj hi (by simpa using tot.symm)
   exact (decide_eq_false (by with_reducible exact Nat.not_lt_of_lt (by assumption))).symm
end
end
section
variable {W : Wd} {n : Nat} {env : Env} {wr : List Str} {σ : Sto}
def tsAt (k h : Nat) : Tab := (tabs k).getD h ⟨[], []⟩
theorem pf0_t0 : PF0 ⟨[], []⟩ = true := by decide +kernel
theorem pf0_t1a : PF0 ⟨[34], [(34, [34, 34])]⟩ = true := by decide +kernel
theorem pf0_t1b : PF0 ⟨34 :: lit " made", [(34, [34, 34])]⟩ = true := by decide +kernel
theorem pf0_t1c : PF0 ⟨34 :: lit ".", [(34, [34, 34])]⟩ = true := by decide +kernel
theorem pf1_t2 : PF1 ⟨[58], []⟩ = true := by decide +kernel
theorem pf0_t2 : PF0 ⟨[58], []⟩ = true := by decide +kernel
theorem pf0_t3 : PF0 ⟨lit "</d>", m3⟩ = true := by decide +kernel
theorem pf0_t4a : PF0 ⟨[34], m40⟩ = true := by decide +kernel
theorem pf0_t4b : PF0 ⟨[34], m41⟩ = true := by decide +kernel
theorem pf0_t4c : PF0 ⟨[34], m42⟩ = true := by decide +kernel
theorem pf0_t5 : PF0 ⟨[13, 10], []⟩ = true := by decide +kernel
theorem pf0_t1 (k : Nat) : PF0 ⟨34 :: tailN k, [(34, [34, 34])]⟩ = true := by
 have : tailN k = [] ∨ tailN k = lit " made" ∨ tailN k = lit "." := by
  unfold tailN
  rcases mod3c k with h | h | h <;> rw [h]
  ·exact .inl rfl
  ·exact .inr (.inl rfl)
  ·exact .inr (.inr rfl)
 rcases this with h | h | h <;> rw [h]
 ·exact pf0_t1a
 ·exact pf0_t1b
 ·exact pf0_t1c
theorem pf0_t4 (k : Nat) : PF0 ⟨[34], m4 k⟩ = true := by
 have : m4 k = m40 ∨ m4 k = m41 ∨ m4 k = m42 := by
  unfold m4
  rcases mod3c (k / 3) with h | h | h <;> rw [h]
  ·exact .inl rfl
  ·exact .inr (.inl rfl)
  ·exact .inr (.inr rfl)
 rcases this with h | h | h <;> rw [h]
 ·exact pf0_t4a
 ·exact pf0_t4b
 ·exact pf0_t4c
theorem six {p : Nat → Prop} (h0 : p 0) (h1 : p 1) (h2 : p 2) (h3 : p 3) (h4 : p 4) (h5 : p 5) (c : Nat) (h : c < 6) : p c := by
 rcases c with _ | _ | _ | _ | _ | _ | c
 ·exact h0
 ·exact h1
 ·exact h2
 ·exact h3
 ·exact h4
 ·exact h5
 ·exact absurd h (Nat.not_lt_of_le (Nat.le_add_left 6 c))
theorem pf0_all (k h : Nat) (hh : h < 6) : PF0 (tsAt k h) = true := six (p := fun h => PF0 (tsAt k h) = true) pf0_t0 (pf0_t1 k) pf0_t2 pf0_t3 (pf0_t4 k) pf0_t5 h hh
def colL (d : List Nat) (k : Nat) (l : List Nat) : Nat → List Nat
 | 0 => l
 | 1 => reply l (tailN (d.getD 6 0))
 | 2 => stdOut l (((d.getD k 0 / 5 % 40 : Nat) : Int) - 20)
 | 3 => escC l ++ lit "</d>"
 | 4 => escF (d.getD 6 0) l ++ [34]
 | 5 => dotted l ++ [13, 10]
 | _ => []
theorem enc_raw (e l : List Nat) : enc ⟨e, []⟩ l = l ++ e := by
 unfold enc
 rw [show (spl ([] : Spl)) = fun c => [c] from rfl]; simp
theorem dot_lt {a b : List Nat} (ha : ∀ c ∈ a, c ∈ C14) (hb : ∀ c ∈ b, c ∈ C14) : (dotted a ++ [13, 10] < dotted b ++ [13, 10]) ↔ (a ++ [13, 10] < b ++ [13, 10]) := by
 have hd : ∀ (c : Nat) (l : List Nat), ∃ r, dotted (c :: l) = c :: r ∧ (c = 46 → r = 46 :: l) ∧ (c ≠ 46 → r = l) := fun c l => by
  unfold dotted
  by_cases h : c = 46
  ·subst h; exact (i1_3 (46 :: l) (by simp) (fun _ => rfl) (fun q => absurd rfl q))
  ·exact (i1_3 l (by simp [h]) (fun q => absurd q h) (fun _ => rfl))
 have hn : dotted [] = [] := rfl
 match a, b with
 | [], [] => exact Iff.rfl
 | [], d :: m =>
  refine o1_2 (hd d m) fun r e _ => ?_
  have h13 := (c14_lt d (hb d (.head _))).2.1
  rw [hn, e]
  simp only [List.nil_append, List.cons_append, List.cons_lt_cons_iff, Ne.symm h13, false_and, or_false]
 | c :: l, [] =>
  refine o1_2 (hd c l) fun r e _ => ?_
  have h13 := (c14_lt c (ha c (.head _))).2.1
  rw [hn, e]
  simp only [List.nil_append, List.cons_append, List.cons_lt_cons_iff, h13, false_and, or_false]
 | c :: l, d :: m =>
  refine o1_3 (hd c l) fun r e e1 e2 => ?_
  refine o1_3 (hd d m) fun r' e' e1' e2' => ?_
  rw [e, e']
  by_cases q : c = d
  ·subst q
   by_cases h : c = 46
   ·rw [e1 h, e1' h]
    simp only [List.cons_append, List.cons_lt_cons_iff, Nat.lt_irrefl, true_and, false_or]
   ·rw [e2 h, e2' h]
  ·simp only [List.cons_append, List.cons_lt_cons_iff, q, false_and, or_false]
theorem col_lt {d a b : List Nat} {i j c : Nat} (hc : c < 6) (hne : a ≠ b) (ha : ∀ c ∈ a, c ∈ C14) (hb : ∀ c ∈ b, c ∈ C14) :
  decide (colL d i a c < colL d j b c) = ltN (ltT (tsAt (d.getD 6 0) c)) a b := by
 refine six (p := fun c => decide (colL d i a c < colL d j b c) = ltN (ltT (tsAt (d.getD 6 0) c)) a b) ?_ ?_ ?_ ?_ ?_ ?_ c hc
 ·refine (decide_eq_decide.mpr ?_).trans (enc_lt (pf0_all (d.getD 6 0) 0 (by decide)) hne ha hb)
  show (a < b) ↔ (enc ⟨[], []⟩ a < enc ⟨[], []⟩ b)
  rw [enc_raw, enc_raw, List.append_nil, List.append_nil]
 ·refine (decide_eq_decide.mpr ?_).trans (enc_lt (pf0_all (d.getD 6 0) 1 (by decide)) hne ha hb)
  show (reply a (tailN (d.getD 6 0)) < reply b (tailN (d.getD 6 0))) ↔ (enc ⟨34 :: tailN (d.getD 6 0), [(34, [34, 34])]⟩ a < enc ⟨34 :: tailN (d.getD 6 0), [(34, [34, 34])]⟩ b)
  unfold reply enc
  rw [dblq_spl, dblq_spl]
  rw [List.append_assoc, List.append_assoc, List.append_assoc, List.append_assoc]
  exact app_lt _ _ _
 ·refine (decide_eq_decide.mpr ?_).trans (enc_lt1 pf1_t2 ((Str.ofString (toString (((d.getD i 0 / 5 % 40 : Nat) : Int) - 20))).cps.toList ++ [40, 102, 41]) ((Str.ofString (toString (((d.getD j 0 / 5 % 40 : Nat) : Int) - 20))).cps.toList ++ [40, 102, 41]) hne ha hb)
  rw [enc_raw, enc_raw]
  show stdOut a _ < stdOut b _ ↔ _
  unfold stdOut
  simp only [List.append_assoc]
 ·refine (decide_eq_decide.mpr ?_).trans (enc_lt (pf0_all (d.getD 6 0) 3 (by decide)) hne ha hb)
  show (escC a ++ lit "</d>" < escC b ++ lit "</d>") ↔ (enc ⟨lit "</d>", m3⟩ a < enc ⟨lit "</d>", m3⟩ b)
  rw [escC_spl ha, escC_spl hb]; exact Iff.rfl
 ·refine (decide_eq_decide.mpr ?_).trans (enc_lt (pf0_all (d.getD 6 0) 4 (by decide)) hne ha hb)
  show (escF (d.getD 6 0) a ++ [34] < escF (d.getD 6 0) b ++ [34]) ↔ (enc ⟨[34], m4 (d.getD 6 0)⟩ a < enc ⟨[34], m4 (d.getD 6 0)⟩ b)
  rw [escF_spl ha, escF_spl hb]; exact Iff.rfl
 ·refine (decide_eq_decide.mpr ?_).trans (enc_lt (pf0_all (d.getD 6 0) 5 (by decide)) hne ha hb)
  show (dotted a ++ [13, 10] < dotted b ++ [13, 10]) ↔ (enc ⟨[13, 10], []⟩ a < enc ⟨[13, 10], []⟩ b)
  rw [dot_lt ha hb, enc_raw, enc_raw]
theorem u8_lt {x y : Nat} (hx : x < 256) (hy : y < 256) : (x.toUInt8 < y.toUInt8) ↔ x < y := by
 rw [UInt8.lt_iff_toNat_lt]
 simp [Nat.toUInt8, Nat.mod_eq_of_lt hx, Nat.mod_eq_of_lt hy]
theorem border : ∀ (a b : List Nat), (∀ x ∈ a, x < 256) → (∀ x ∈ b, x < 256) →
  (Builtin.Bytes.order (a.map Nat.toUInt8) (b.map Nat.toUInt8) == .lt) = decide (a < b) ∧ (Builtin.Bytes.order (a.map Nat.toUInt8) (b.map Nat.toUInt8) == .gt) = decide (b < a)
 | [], [], _, _ => ⟨rfl, rfl⟩
 | [], y :: b, _, _ => ⟨by simp [Builtin.Bytes.order], by simp [Builtin.Bytes.order]⟩
 | x :: a, [], _, _ => ⟨by simp [Builtin.Bytes.order], by simp [Builtin.Bytes.order]⟩
 | x :: a, y :: b, ha, hb => by
  have hx := ha x (.head _)
  have hy := hb y (.head _)
  have ih := border a b (fun z hz => ha z (.tail _ hz)) (fun z hz => hb z (.tail _ hz))
  have l1 := u8_lt hx hy
  have l2 := u8_lt hy hx
  rw [List.map_cons, List.map_cons]
  unfold Builtin.Bytes.order
  rcases Nat.lt_trichotomy x y with q | q | q
  ·rw [if_pos (l1.mpr q)]
   have : ¬ y < x := by with_reducible exact Nat.not_lt_of_lt (by assumption)
   have e : ¬ y = x := by with_reducible exact Nat.ne_of_gt (by assumption)
   simp [List.cons_lt_cons_iff, q, this, e]
  ·subst q
   have h1 : ¬ x.toUInt8 < x.toUInt8 := fun r => Nat.lt_irrefl _ (l1.mp r)
   rw [if_neg h1, if_neg h1]
   simp only [List.cons_lt_cons_iff, Nat.lt_irrefl, true_and, false_or]
   exact ih
  ·have h1 : ¬ x.toUInt8 < y.toUInt8 := fun r => by have := l1.mp r; omega
   rw [if_neg h1, if_pos (l2.mpr q)]
   have : ¬ x < y := by with_reducible exact Nat.not_lt_of_lt (by assumption)
   have e : ¬ x = y := by with_reducible exact Nat.ne_of_gt (by assumption)
   simp [List.cons_lt_cons_iff, q, this, e]
def rowPV (d : List Nat) (k : Nat) (l : List Nat) : PV := .tuple [qnI (colL d k l 0), .str (S (colL d k l 1)), .str (S (colL d k l 2)), qnI (colL d k l 3), qnI (colL d k l 4), .bytes (Re.Bs (colL d k l 5)), .int (l.length : Int)]
def rowsPV (d : List Nat) (ns : List (List Nat)) : List PV := (List.range 6).map fun k => rowPV d k (ns.getD k [])
def ltC (d : List Nat) (ns : List (List Nat)) (i j c : Nat) : Bool := if c = 6 then decide ((ns.getD i []).length < (ns.getD j []).length) else decide (colL d i (ns.getD i []) c < colL d j (ns.getD j []) c)
theorem rows_get {d : List Nat} {ns : List (List Nat)} {i : Nat} (h : i < 6) : (rowsPV d ns)[i]? = some (rowPV d i (ns.getD i [])) := by
 unfold rowsPV; rw [List.getElem?_map, List.getElem?_range h]; rfl
theorem bs_list (l : List Nat) : (Re.Bs l).toList = l.map Nat.toUInt8 := by simp [Re.Bs]
theorem rows_ok (T : QCls W) (hI : W.Top "isinstance" (.builtin "isinstance")) {sig d : List Nat} {ns : List (List Nat)} (hN : NamesOk sig ns) (hn : ns.length = 6) (hs : ∀ c ∈ sig, c ∈ C14) :
  RowsOk W (n + 1) (rowsPV d ns) (ltC d ns) (fun i j c => ltC d ns j i c) := by
 have small : ∀ k, k < 6 → ∀ x ∈ colL d k (ns.getD k []) 5, x < 256 := fun k hk x hx => by
  rcases List.mem_append.mp hx with hx | hx
  ·rcases dotted_mem hx with q | q
   ·with_reducible exact Om.eqLt (by assumption) (by decide)
   ·have := (c14_lt x (hs x (hN.of_ _ (List.mem_of_getElem? (ns_get hn hk)) x q))).1; with_reducible exact Nat.lt_of_lt_of_le (by assumption) (by decide)
  ·simp at hx; omega
 refine ⟨by simp [rowsPV], fun i hi => ⟨_, rows_get hi⟩, fun i j c xs ys hi hj hc hx hy => ?_⟩
 rw [rows_get hi] at hx
 rw [rows_get hj] at hy
 cases hx; cases hy
 rcases c with _ | _ | _ | _ | _ | _ | _ | c
 ·exact (i2_4 _ _ rfl rfl (fun Ψ h => CmpP.ltQ T hI h) (fun Ψ h => CmpP.gtQ T hI h))
 ·exact (i2_4 _ _ rfl rfl (fun Ψ h => CmpP.ltS (by rw [S_cps, S_cps]; exact h)) (fun Ψ h => CmpP.gtS (by rw [S_cps, S_cps]; exact h)))
 ·exact (i2_4 _ _ rfl rfl (fun Ψ h => CmpP.ltS (by rw [S_cps, S_cps]; exact h)) (fun Ψ h => CmpP.gtS (by rw [S_cps, S_cps]; exact h)))
 ·exact (i2_4 _ _ rfl rfl (fun Ψ h => CmpP.ltQ T hI h) (fun Ψ h => CmpP.gtQ T hI h))
 ·exact (i2_4 _ _ rfl rfl (fun Ψ h => CmpP.ltQ T hI h) (fun Ψ h => CmpP.gtQ T hI h))
 ·exact (i2_4 _ _ rfl rfl (fun Ψ h => CmpP.ltB (by rw [bs_list, bs_list, (border _ _ (small i hi) (small j hj)).1]; exact h)) (fun Ψ h => CmpP.gtB (by rw [bs_list, bs_list, (border _ _ (small i hi) (small j hj)).2]; exact h)))
 ·exact (i2_4 _ _ rfl rfl (fun Ψ h => CmpP.ltN h) (fun Ψ h => CmpP.gtN h))
 ·exact absurd hc (Nat.not_lt_of_le (Nat.le_add_left 7 c))
theorem hands_ok {sig d : List Nat} {ns : List (List Nat)} (hN : NamesOk sig ns) (hn : ns.length = 6) (hs : ∀ c ∈ sig, c ∈ C14) : Hands ns (tsAt (d.getD 6 0)) (ltC d ns) (fun i j c => ltC d ns j i c) := by
 have mem : ∀ k, k < 6 → ∀ c ∈ ns.getD k [], c ∈ C14 := fun k hk c hc => hs c (hN.of_ _ (List.mem_of_getElem? (ns_get hn hk)) c hc)
 have inj : ∀ i j, i < 6 → j < 6 → i ≠ j → ns.getD i [] ≠ ns.getD j [] := fun i j hi hj hne q => by
  have h1 := List.getElem?_eq_some_iff.mp (ns_get hn hi)
  have h2 := List.getElem?_eq_some_iff.mp (ns_get hn hj)
  exact hne ((List.getElem_inj hN.nodup).mp (h1.2.trans (q.trans h2.2.symm)))
 have main : ∀ i j c, i < 6 → j < 6 → c < 6 → ltC d ns i j c = ltN (ltT (tsAt (d.getD 6 0) c)) (ns.getD i []) (ns.getD j []) := fun i j c hi hj hc => by
  unfold ltC
  rw [if_neg (by with_reducible exact Nat.ne_of_lt (by assumption))]
  by_cases e : i = j
  ·subst e
   rw [ltN_irr (ltT_irr _)]
   exact decide_eq_false (List.lt_irrefl _)
  ·exact col_lt hc (inj i j hi hj e) (mem i hi) (mem j hj)
 exact ⟨main, fun i j c hi hj hc => main j i c hj hi hc, fun i j hi hj => if_pos rfl, fun i j hi hj => if_pos rfl,
  fun i j c hi hj hc hne => ltN_tot (pf0_all _ c hc) _ _ (inj i j hi hj hne) (mem i hi) (mem j hj), fun i c hi hc => ltN_irr (ltT_irr _) _,
  fun i j c hi hj hc => LN_lt hN hn hs (pf0_all _ c hc) hi hj⟩
theorem keys_nodup {sig : List Nat} (hn : sig.Nodup) (hs : ∀ c ∈ sig, c ∈ C14) {t : Tab} (h : PF0 t = true) : ((keysL sig).map (tx t)).Nodup := by
 have kn : (keysL sig).Nodup := by
  unfold keysL
  refine List.nodup_cons.mpr ⟨by simp, ?_⟩
  exact List.pairwise_map.mpr (hn.imp fun {a b} q r => q (by simpa using r))
 refine List.pairwise_map.mpr (kn.imp_of_mem fun {a b} ha hb q => tx_inj h (keysL_mono hs ha) (keysL_mono hs hb) q)
end
section
variable {W : Wd} {n : Nat} {env : Env} {wr : List Str} {σ : Sto}
theorem binds36 : Binds (top 36) ["rows", "names", "profile", "tables", "drawn"] := fun name qual kV doc pm an cdv ct vals hv => by
 refine o5_1 (list5 hv) fun _ _ _ _ _ zf => ?_; obtain rfl := zf; rfl
def lstsPV (ns : List (List Nat)) (k h : Nat) : List PV := (List.range h).map fun i => PV.list (intsPV (tri 0 6 (lstF ns (tsAt k i))))
theorem tabs_get {k h : Nat} (hh : h < 6) : (tabs k)[h]? = some (tsAt k h) := by
 unfold tsAt
 rw [List.getD_eq_getElem?_getD, List.getElem?_eq_getElem (by show h < 6; exact hh)]; rfl
theorem tabs_enum {sig : List Nat} {k i : Nat} {p : List PV} (h : (enumPV ((tabs k).map fun t => PV.dict (tabPV sig t)))[i]? = some p) : i < 6 ∧ p = [.int (i : Int), .dict (tabPV sig (tsAt k i))] := by
 have hi : i < 6 := by have := (List.getElem?_eq_some_iff.mp h).1; simpa [enumPV, tabs] using this
 have e : ((tabs k).map fun t => PV.dict (tabPV sig t))[i]? = some (.dict (tabPV sig (tsAt k i))) := by rw [List.getElem?_map, tabs_get hi]; rfl
 rw [enumPV_get e] at h
 exact ⟨hi, (Option.some.inj h).symm⟩
theorem flat_ints (l : List Int) : Flat 4 (.list (intsPV l)) := by
 refine .list fun q hq => ?_
 refine o1_2 (List.mem_map.mp hq) fun x _ zc => ?_; obtain rfl := zc
 exact .int
theorem pl_get {l : List Nat} {i : Nat} (h : i < l.length) : (natsPV l)[i]? = some (.int ((l.getD i 0 : Nat) : Int)) := by
 unfold natsPV; rw [List.getElem?_map, List.getElem?_eq_getElem h, List.getD_eq_getElem?_getD, List.getElem?_eq_getElem h]; rfl
theorem listings_ok {f fpl fan fba fdu : Addr} (hf : FnAt W "_law_listings" 36 f) (hpl : FnAt W "_law_places" 32 fpl) (han : FnAt W "_law_answers" 33 fan) (hba : FnAt W "_law_backwards" 34 fba) (hdu : FnAt W "_law_due" 35 fdu)
  (hen : W.Top "enumerate" (.type "enumerate")) (hle : W.Top "len" (.builtin "len")) (hra : W.Top "range" (.type "range")) (hso : W.Top "sorted" (.builtin "sorted")) (T : TCls W)
  {sig d : List Nat} {ns : List (List Nat)} {tk : Nat → Nat} {rws : List PV} {lt gt : Nat → Nat → Nat → Bool} (hR : RowsOk W n rws lt gt) (hH : Hands ns (tsAt (d.getD 6 0)) lt gt) (hd : d.length = 8) (hs : sig.length = 3) (hn : ns.length = 6) (hN : NamesOk sig ns)
  (hk : ∀ h, h < 6 → ((keysL sig).map (tx (tsAt (d.getD 6 0) h))).Nodup) {Ψ : PV → Prop} (h : Ψ (.list (lstsPV ns (d.getD 6 0) 6))) :
  CallP W (n + 3) (.val (.ref f)) [.list rws, .list (txs ns), .dict (profPV (prof ns tk 6)), tabsPV sig (d.getD 6 0), nums d] Ψ := by
 have hlen : ∀ k, (ns.getD k []).length ≤ 5 := name_len hN hn
 refine CallP.ob hf.toFnOb ["rows", "names", "profile", "tables", "drawn"] binds36 fun qual L cdv => ?_
 refine Ex.cons ?_
 fail "e"
 intro c
 fail "ev"
 with_reducible refine Ex1.forTI ?_
 refine EvT'.enumerate (by rfl) (by rfl) hen ?_
 fail "e"
 refine KEnum.mk ?_
 refine forT.inv (fun i σ => List.lookup (Str.ofString "rows") σ = some (SV.fz (.list rws)) ∧ List.lookup (Str.ofString "names") σ = some (SV.fz (.list (txs ns))) ∧ List.lookup (Str.ofString "profile") σ = some (SV.fz (.dict (profPV (prof ns tk 6)))) ∧
  List.lookup (Str.ofString "drawn") σ = some (SV.fz (nums d)) ∧ List.lookup (Str.ofString "listings") σ = some (SV.ol c (lstsPV ns (d.getD 6 0) i))) ⟨by fail "look", by fail "look", by fail "look", by fail "look", by fail "look"⟩ ?_ ?_
 ·intro i p σ hp oI Φ kk; refine o0_5 oI fun g1 g2 g3 g4 g5 => ?_; clear oI
  refine o0_2 (tabs_enum hp) fun hi zb => ?_; obtain rfl := zb
  refine ⟨rfl, ?_⟩
  have hki := hk i hi
  fail "e"
  refine SubS.of (SubP.list (p := .int ((d.getD 7 0 : Nat) : Int)) (by decide) (by decide) (by show _[7]? = _; exact nums_get (by with_reducible exact Om.ltEq (by assumption) (by decide))) ?_)
  fail "e"
  refine BinP.powI (Int.natCast_nonneg _) (by with_reducible exact Om.castLe' (by assumption) (by decide)) (by decide) ?_
  rw [Int.toNat_natCast, show ((2 : Int) ^ i) = ((2 ^ i : Nat) : Int) by simp]
  have hp2 : ∀ j, j < 6 → 2 ^ j ≠ 0 ∧ (((2 ^ j : Nat) : Int)).natAbs.log2 < 9000 := by decide
  refine BinP.divN (hp2 i hi).1 (hp2 i hi).2 ?_
  fail "e"
  refine BinP.mulI two_mul_ok ?_
  fail "e"
  rw [show (1 : Int) - 2 * ((d.getD 7 0 / 2 ^ i % 2 : Nat) : Int) = dirN (d.getD 7 0 / 2 ^ i) from rfl]
  generalize d.getD 7 0 / 2 ^ i = x
  fail "e"
  refine CallS.of (places_ok hpl hso hs hn hN hki ?_)
  fail "e"
  have hks1 : ∀ k ∈ [(i, dirN x)], k.1 < 7 := fun k hk => by rw [List.mem_singleton] at hk; subst hk; show i < 7; with_reducible exact Nat.lt_of_lt_of_le (by assumption) (by decide)
  refine CallS.of (answers_ok han hle hra T hR (ks := [(i, dirN x)]) hks1 ?_)
  rw [hH.key1 hi x]
  have hpg : ∀ j, j < 6 → (ns.map (LN (ltT (tsAt (d.getD 6 0) i)) ns)).getD j 0 = LN (ltT (tsAt (d.getD 6 0) i)) ns (ns.getD j []) := fun j hj => by
   rw [List.getD_eq_getElem?_getD, List.getElem?_map, ns_get hn hj]; rfl
  have hpn : (ns.map (LN (ltT (tsAt (d.getD 6 0) i)) ns)).length = 6 := by rw [List.length_map, hn]
  generalize hpls : ns.map (LN (ltT (tsAt (d.getD 6 0) i)) ns) = pls at hpg hpn
  fail "e"
  refine Ev.comp1 (CompSc.mk' (by with_unfolding_all rfl) (by with_unfolding_all rfl) (by decide)) (EvX.name (EvI.of ?_))
  fail "e"
  refine ⟨_, IterP.list, [("direction", .int (dirN x))], ⟨fun x q hx => ?_⟩, fun C => ?_⟩
  ·rw [List.mem_singleton] at hx; cases hx
   exact ⟨by fail "look", by decide, fun q => by cases (show some NameKind.cell = some NameKind.local from q)⟩
  refine compB.inv (fun j σ' acc => List.lookup (Str.ofString "direction") σ' = some (SV.fz (.int (dirN x))) ∧ acc = intsPV ((pls.take j).map fun (p : Nat) => dirN x * (p : Int))) ⟨by fail "look", rfl⟩ ?_ ?_
  ·intro j q σ' acc hq oI Φ' kk'; refine o0_2 oI fun k1 zb => ?_; clear oI; obtain rfl := zb
   refine o1_2 (nats_get hq) fun p ep zc => ?_; obtain rfl := zc
   refine AsgX.name (by fail "wr") ?_
   refine CTs.yes ?_
   refine ⟨by rw [intsPV_len, List.length_map, List.length_take]; exact Nat.le_trans (by with_reducible exact Nat.le_trans (Nat.min_le_right _ _) (Om.eqLe (by assumption) (by decide)) : _ ≤ 64) (by decide), ?_⟩
   fail "e"
   refine BinP.mulI dir_mul ?_
   refine kk' _ _ ⟨by fail "look", ?_⟩
   rw [List.take_add_one, ep, List.map_append, intsPV_app]; rfl
  ·intro σ' acc oI; refine o0_2 oI fun k1 zb => ?_; clear oI; obtain rfl := zb
   rw [show (natsPV pls).length = pls.length from List.length_map _, List.take_length]
   fail "e"
   have hrk : ∀ (i' : Nat) (p : PV), (intsPV (pls.map fun (p : Nat) => dirN x * (p : Int)))[i']? = some p → i' < 6 ∧ p = .int (dirN x * (LN (ltT (tsAt (d.getD 6 0) i)) ns (ns.getD i' []) : Int)) := fun i' p hp => by
    have h6 : i' < 6 := by have := (List.getElem?_eq_some_iff.mp hp).1; rwa [intsPV_len, List.length_map, hpn] at this
    refine ⟨h6, ?_⟩
    rw [← hpg i' h6]
    unfold intsPV at hp
    rw [List.getElem?_map, List.getElem?_map, List.getElem?_eq_getElem (by with_reducible exact Nat.lt_of_lt_of_eq (by assumption) (Eq.symm (by assumption)))] at hp
    rw [List.getD_eq_getElem?_getD, List.getElem?_eq_getElem (by with_reducible exact Nat.lt_of_lt_of_eq (by assumption) (Eq.symm (by assumption)))]
    exact (Option.some.inj hp).symm
   refine CallS.of (due_ok hdu hle hra (rk := intsPV (pls.map fun (p : Nat) => dirN x * (p : Int))) (by rw [intsPV_len, List.length_map, hpn]) (gt := fun i' j => decide (dirN x * (LN (ltT (tsAt (d.getD 6 0) i)) ns (ns.getD j []) : Int) < dirN x * (LN (ltT (tsAt (d.getD 6 0) i)) ns (ns.getD i' []) : Int))) (fun i' j p q hp hq Ψ hΨ => ?_) ?_)
   ·refine o0_2 (hrk i' p hp) fun _ zb => ?_; obtain rfl := zb
    refine o0_2 (hrk j q hq) fun _ zb => ?_; obtain rfl := zb
    exact CmpP.gtI hΨ
   refine CmpP.neList (flat_ints _) (KTst.ite ?_)
   refine iteN (by decide) ?_
   fail "e"
   refine SubS.of (SubP.list (p := .int ((d.getD 6 0 : Nat) : Int)) (by decide) (by decide) (by show _[6]? = _; exact nums_get (by with_reducible exact Om.ltEq (by assumption) (by decide))) ?_)
   fail "e"
   cases hh : decide (i = d.getD 6 0 / 9 % 6) with
   | false =>
    refine iteN (by decide) ?_
    fail "e"
    refine Ev.borrowL (by fail "look") ⟨_, MethS.list (x := "listings") (by fail "look") F.slot_list_append F.type_list_append, KeepOk.builtin, ?_⟩
    fail "e"
    refine Ev.comp1 (CompSc.mk' (by with_unfolding_all rfl) (by with_unfolding_all rfl) (by decide)) (EvX.name (EvI.of ?_))
    fail "e"
    refine CallS.of (backwards_ok hba hle hra T hR (ks := [(i, dirN x)]) hks1 ?_)
    have hbk := hH.back hi x
    generalize (tri 0 6 fun i_1 j => cmpK (lt j i_1) (gt j i_1) [(i, dirN x)]) = bk at hbk
    have hbl : bk.length = 15 := by
     have := congrArg List.length hbk
     rw [List.length_map] at this; rw [this]; rfl
    refine ⟨_, IterP.list, [("direction", .int (dirN x))], ⟨fun x q hx => ?_⟩, fun C => ?_⟩
    ·rw [List.mem_singleton] at hx; cases hx
     exact ⟨by fail "look", by decide, fun q => by cases (show some NameKind.cell = some NameKind.local from q)⟩
    refine compB.inv (fun j σ' acc => List.lookup (Str.ofString "direction") σ' = some (SV.fz (.int (dirN x))) ∧ acc = intsPV ((bk.take j).map fun (a : Int) => dirN x * a)) ⟨by fail "look", rfl⟩ ?_ ?_
    ·intro j q σ' acc hq oI Φ' kk'; refine o0_2 oI fun k1 zb => ?_; clear oI; obtain rfl := zb
     have hq : (bk.map PV.int)[j]? = some q := hq
     rw [List.getElem?_map] at hq
     cases ej : bk[j]? with
     | none => rw [ej] at hq; cases hq
     | some a =>
      rw [ej] at hq
      have hq2 : q = .int a := (Option.some.inj hq).symm
      subst hq2
      refine AsgX.name (by fail "wr") ?_
      refine CTs.yes ?_
      refine ⟨by rw [intsPV_len, List.length_map, List.length_take]; exact Nat.le_trans (by with_reducible exact Nat.le_trans (Nat.min_le_right _ _) (Om.eqLe (by assumption) (by decide)) : _ ≤ 64) (by decide), ?_⟩
      fail "e"
      refine BinP.mulI dir_mul ?_
      refine kk' _ _ ⟨by fail "look", ?_⟩
      rw [List.take_add_one, ej, List.map_append, intsPV_app]; rfl
    ·intro σ' acc oI; refine o0_2 oI fun k1 zb => ?_; clear oI; obtain rfl := zb
     rw [intsPV_len, List.take_length, hbk]
     fail "e"
     refine CallS.append (x := "listings") (by fail "look") (by rw [lstsPV, List.length_map, List.length_range]; exact Nat.le_trans (by with_reducible exact Nat.le_trans (Nat.le_of_lt (by assumption)) (by decide) : i ≤ 64) (by decide)) ?_
     fail "e"
     refine kk _ ⟨by fail "look", by fail "look", by fail "look", by fail "look", ?_⟩
     rw [show lstsPV ns (d.getD 6 0) (i + 1) = lstsPV ns (d.getD 6 0) i ++ [PV.list (intsPV (tri 0 6 (lstF ns (tsAt (d.getD 6 0) i))))] by unfold lstsPV; rw [List.range_succ, List.map_append]; rfl]
     fail "look"
   | true =>
    refine iteP rfl ?_
    fail "e"
    refine SubS.of (SubP.list (p := .int ((d.getD 7 0 : Nat) : Int)) (by decide) (by decide) (by show _[7]? = _; exact nums_get (by with_reducible exact Om.ltEq (by assumption) (by decide))) ?_)
    fail "e"
    refine BinP.mulI two_mul_ok ?_
    fail "e"
    rw [show (1 : Int) - 2 * ((d.getD 7 0 / 64 % 2 : Nat) : Int) = dirN (d.getD 7 0 / 64) from rfl]
    generalize d.getD 7 0 / 64 = y
    fail "e"
    refine Ex1.comp1 false (by fail "wr") (by with_unfolding_all rfl) (CompSc.mk' (by with_unfolding_all rfl) (by with_unfolding_all rfl) (by decide)) (EvX.name (EvI.of ?_))
    fail "e"
    refine CallS.of (CallP.lenL (by rw [txs, List.length_map, hn]; decide) ?_)
    rw [show (txs ns).length = 6 by rw [txs, List.length_map, hn]]
    fail "e"
    refine CallS.of (CallP.range1 ⟨_, IterP.range (m := 6) (by decide) (by decide) (by decide) (by decide) (by decide), ?_⟩)
    refine (i1_2 ([("direction", .int (dirN x)), ("level", .int (dirN y)), ("names", .list (txs ns)), ("places", .list (natsPV pls))]) ⟨fun x q hx => ?_⟩ (fun C => ?_))
    ·simp only [List.mem_cons, List.not_mem_nil, or_false] at hx
     rcases hx with hx | hx | hx | hx <;> cases hx <;> exact ⟨by fail "look", by decide, fun q => by cases (show some NameKind.cell = some NameKind.local from q)⟩
    refine compB.inv (fun j σ' acc => List.lookup (Str.ofString "direction") σ' = some (SV.fz (.int (dirN x))) ∧ List.lookup (Str.ofString "level") σ' = some (SV.fz (.int (dirN y))) ∧ List.lookup (Str.ofString "names") σ' = some (SV.fz (.list (txs ns))) ∧
     List.lookup (Str.ofString "places") σ' = some (SV.fz (.list (natsPV pls))) ∧ acc = (List.range j).map fun j => PV.tuple [.int (dirN y * ((ns.getD j []).length : Int)), .int (dirN x * (LN (ltT (tsAt (d.getD 6 0) i)) ns (ns.getD j []) : Int))])
     ⟨by fail "look", by fail "look", by fail "look", by fail "look", rfl⟩ ?_ ?_
    ·intro j q σ' acc hq oI Φ' kk'; refine o0_5 oI fun k1 k2 k3 k4 ze => ?_; clear oI; obtain rfl := ze
     refine o0_2 (range_get0 hq) fun hj zb => ?_; obtain rfl := zb
     have hll := hlen j
     have hnj : (txs ns)[j]? = some (.str (S (ns.getD j []))) := by rw [txs_get, ns_get hn hj]; rfl
     refine AsgX.name (by fail "wr") ?_
     refine CTs.yes ?_
     refine ⟨by rw [List.length_map, List.length_range]; exact Nat.le_trans (by with_reducible exact Nat.le_trans (Nat.le_of_lt (by assumption)) (by decide) : _ ≤ 64) (by decide), ?_⟩
     fail "e"
     refine SubS.of (SubP.list (Int.natCast_nonneg _) (by with_reducible exact Om.castLt (by assumption) (by decide)) (by rw [Int.toNat_natCast]; exact hnj) ?_)
     fail "e"
     refine CallS.of (CallP.lenS (by rw [S_len]; with_reducible exact Om.castLt' (by assumption) (by decide)) ?_)
     rw [S_len]
     refine BinP.mulI dir_mul ?_
     fail "e"
     refine SubS.of (SubP.list (Int.natCast_nonneg _) (by with_reducible exact Om.castLt (by assumption) (by decide)) (by rw [Int.toNat_natCast]; exact pl_get (by with_reducible exact Nat.lt_of_lt_of_eq (by assumption) (Eq.symm (by assumption)))) ?_)
     rw [hpg j hj]
     refine BinP.mulI dir_mul ?_
     fail "e"
     refine kk' _ _ ⟨by fail "look", by fail "look", by fail "look", by fail "look", ?_⟩
     rw [List.range_succ, List.map_append]; rfl
    ·intro σ' acc oI; refine o0_5 oI fun k1 k2 k3 k4 ze => ?_; clear oI; obtain rfl := ze
     intro c₂
     rw [rangePV_len, if_neg (by decide)]
     have hks2 : ∀ k ∈ [(6, dirN y), (i, dirN x)], k.1 < 7 := fun k hk => by
      simp only [List.mem_cons, List.not_mem_nil, or_false] at hk
      rcases hk with rfl | rfl
      ·show 6 < 7; with_reducible exact Nat.lt_succ_self _
      ·show i < 7; with_reducible exact Nat.lt_of_lt_of_le (by assumption) (by decide)
     fail "e"
     refine CallS.of (answers_ok han hle hra T hR (ks := [(6, dirN y), (i, dirN x)]) hks2 ?_)
     rw [hH.key2 hi x y]
     fail "e"
     generalize hrkd : (List.range 6).map (fun j => PV.tuple [.int (dirN y * ((ns.getD j []).length : Int)), .int (dirN x * (LN (ltT (tsAt (d.getD 6 0) i)) ns (ns.getD j []) : Int))]) = rk
     have hrk2 : ∀ (i' : Nat) (p : PV), rk[i']? = some p → p = PV.tuple [.int (dirN y * ((ns.getD i' []).length : Int)), .int (dirN x * (LN (ltT (tsAt (d.getD 6 0) i)) ns (ns.getD i' []) : Int))] := fun i' p hp => by
      have h6 : i' < 6 := by have := (List.getElem?_eq_some_iff.mp hp).1; rw [← hrkd] at this; simpa using this
      rw [← hrkd, List.getElem?_map, List.getElem?_range h6] at hp
      exact (Option.some.inj hp).symm
     refine CallS.of (due_ok hdu hle hra (rk := rk) (by rw [← hrkd]; simp) (gt := fun i' j => if dirN y * ((ns.getD i' []).length : Int) == dirN y * ((ns.getD j []).length : Int) then
      (if dirN x * (LN (ltT (tsAt (d.getD 6 0) i)) ns (ns.getD i' []) : Int) == dirN x * (LN (ltT (tsAt (d.getD 6 0) i)) ns (ns.getD j []) : Int) then false else decide (dirN x * (LN (ltT (tsAt (d.getD 6 0) i)) ns (ns.getD j []) : Int) < dirN x * (LN (ltT (tsAt (d.getD 6 0) i)) ns (ns.getD i' []) : Int)))
      else decide (dirN y * ((ns.getD j []).length : Int) < dirN y * ((ns.getD i' []).length : Int))) (fun i' j p q hp hq Ψ hΨ => ?_) ?_)
     ·have := hrk2 i' p hp; subst this
      have := hrk2 j q hq; subst this
      exact CmpP.gtPair hΨ
     refine CmpP.neList (flat_ints _) (KTst.ite ?_)
     refine iteN (by decide) ?_
     fail "e"
     refine Ev.borrowL (by fail "look") ⟨_, MethS.list (x := "listings") (by fail "look") F.slot_list_append F.type_list_append, KeepOk.builtin, ?_⟩
     fail "e"
     refine Ev.comp1 (CompSc.mk' (by with_unfolding_all rfl) (by with_unfolding_all rfl) (by decide)) (EvX.name (EvI.of ?_))
     fail "e"
     refine CallS.of (backwards_ok hba hle hra T hR (ks := [(i, dirN x)]) hks1 ?_)
     have hbk := hH.back hi x
     generalize (tri 0 6 fun i_1 j => cmpK (lt j i_1) (gt j i_1) [(i, dirN x)]) = bk at hbk
     have hbl : bk.length = 15 := by
      have := congrArg List.length hbk
      rw [List.length_map] at this; rw [this]; rfl
     refine ⟨_, IterP.list, [("direction", .int (dirN x))], ⟨fun x q hx => ?_⟩, fun C => ?_⟩
     ·rw [List.mem_singleton] at hx; cases hx
      exact ⟨by fail "look", by decide, fun q => by cases (show some NameKind.cell = some NameKind.local from q)⟩
     refine compB.inv (fun j σ' acc => List.lookup (Str.ofString "direction") σ' = some (SV.fz (.int (dirN x))) ∧ acc = intsPV ((bk.take j).map fun (a : Int) => dirN x * a)) ⟨by fail "look", rfl⟩ ?_ ?_
     ·intro j q σ' acc hq oI Φ' kk'; refine o0_2 oI fun k1 zb => ?_; clear oI; obtain rfl := zb
      have hq : (bk.map PV.int)[j]? = some q := hq
      rw [List.getElem?_map] at hq
      cases ej : bk[j]? with
      | none => rw [ej] at hq; cases hq
      | some a =>
       rw [ej] at hq
       have hq2 : q = .int a := (Option.some.inj hq).symm
       subst hq2
       refine AsgX.name (by fail "wr") ?_
       refine CTs.yes ?_
       refine ⟨by rw [intsPV_len, List.length_map, List.length_take]; exact Nat.le_trans (by with_reducible exact Nat.le_trans (Nat.min_le_right _ _) (Om.eqLe (by assumption) (by decide)) : _ ≤ 64) (by decide), ?_⟩
       fail "e"
       refine BinP.mulI dir_mul ?_
       refine kk' _ _ ⟨by fail "look", ?_⟩
       rw [List.take_add_one, ej, List.map_append, intsPV_app]; rfl
     ·intro σ' acc oI; refine o0_2 oI fun k1 zb => ?_; clear oI; obtain rfl := zb
      rw [intsPV_len, List.take_length, hbk]
      fail "e"
      refine CallS.append (x := "listings") (by fail "look") (by rw [lstsPV, List.length_map, List.length_range]; exact Nat.le_trans (by with_reducible exact Nat.le_trans (Nat.le_of_lt (by assumption)) (by decide) : i ≤ 64) (by decide)) ?_
      fail "e"
      refine kk _ ⟨by fail "look", by fail "look", by fail "look", by fail "look", ?_⟩
      rw [show lstsPV ns (d.getD 6 0) (i + 1) = lstsPV ns (d.getD 6 0) i ++ [PV.list (intsPV (tri 0 6 (lstF ns (tsAt (d.getD 6 0) i))))] by unfold lstsPV; rw [List.range_succ, List.map_append]; rfl]
      fail "look"
 ·rintro σ' ⟨g1, g2, g3, g4, g5⟩
  rw [show (enumPV ((tabs (d.getD 6 0)).map fun t => PV.dict (tabPV sig t))).length = 6 by simp [enumPV, tabs]] at g5
  fail "e"
  refine Ev.own (by fail "look") rfl ?_
  exact h
end
section
theorem diff_pair {ns sig : List (List Nat)} {t u : Tab} {i j : Nat} (h1 : ltN (ltT t) (ns.getD i []) (ns.getD j []) = !ltN (ltT t) (ns.getD j []) (ns.getD i [])) (h2 : ltN (ltT u) (ns.getD i []) (ns.getD j []) = !ltN (ltT u) (ns.getD j []) (ns.getD i [])) :
  (if lstF ns t i j != lstF ns u i j then 1 else 0) = apD t u (ns.getD i []) (ns.getD j []) + apD t u (ns.getD j []) (ns.getD i []) := by
 unfold lstF apD
 rw [h1, h2]
 cases ltN (ltT t) (ns.getD j []) (ns.getD i []) <;> cases ltN (ltT u) (ns.getD j []) (ns.getD i []) <;> decide
theorem sm_app {α : Type} (l m : List α) (f : α → Nat) : sm (l ++ m) f = sm l f + sm m f := by unfold sm; rw [List.map_append, List.sum_append]
theorem sm_one {α : Type} (a : α) (f : α → Nat) : sm [a] f = f a := by rw [sm_cons, sm_nil, Nat.add_zero]
theorem diffN_map {α : Type} (F G : α → Int) (l : List α) : ∀ k, k ≤ l.length → diffN (l.map F) (l.map G) k = sm (l.take k) fun p => if F p != G p then 1 else 0
 | 0, _ => rfl
 | k + 1, h => by
  have g : ∀ F : α → Int, (l.map F).getD k 0 = F l[k] := fun F => by rw [List.getD_eq_getElem?_getD, List.getElem?_map, List.getElem?_eq_getElem h]; rfl
  rw [diffN_succ, diffN_map F G l k (Nat.le_of_succ_le h), List.take_add_one, List.getElem?_eq_getElem h, sm_app, g, g]
  exact congrArg (_ + ·) (sm_one l[k] (fun p => if F p != G p then 1 else 0)).symm
theorem sm_tri {D : Nat → Nat → Nat} (h0 : ∀ i, D i i = 0) : ∀ k, (sm (List.range k) fun i => sm (List.range k) fun j => D i j) = sm ((List.range k).flatMap fun i => (List.range i).map fun j => (i, j)) fun p => D p.1 p.2 + D p.2 p.1
 | 0 => rfl
 | k + 1 => by
  have e : (fun i => sm (List.range (k + 1)) fun j => D i j) = fun i => (sm (List.range k) fun j => D i j) + D i k := funext fun i => by rw [List.range_succ, sm_app, sm_one]
  rw [e, List.range_succ, sm_app, sm_one, sm_add, sm_tri h0 k, List.flatMap_append, sm_app, h0, Nat.add_zero, Nat.add_assoc]
  have m : ∀ f : Nat × Nat → Nat, sm ([k].flatMap fun i => (List.range i).map fun j => (i, j)) f = sm (List.range k) fun j => f (k, j) := fun f => by
   rw [List.flatMap_cons, List.flatMap_nil, List.append_nil]; unfold sm; rw [List.map_map]; rfl
  rw [m, sm_add, sm_add, Nat.add_comm (sm (List.range k) fun a => D a k)]
theorem diff_sum {f g : Nat → Nat → Int} {D : Nat → Nat → Nat} (h0 : ∀ i, D i i = 0) (h : ∀ i j, i < 6 → j < i → (if f i j != g i j then 1 else 0) = D i j + D j i) :
  diffN (tri 0 6 f) (tri 0 6 g) 15 = sm (List.range 6) fun i => sm (List.range 6) fun j => D i j := by
 have e : ∀ f : Nat → Nat → Int, tri 0 6 f = ((List.range 6).flatMap fun i => (List.range i).map fun j => (i, j)).map fun p => f p.1 p.2 := fun f => rfl
 rw [e, e, sm_tri h0]
 refine (diffN_map _ _ _ 15 (by decide)).trans ?_
 rw [List.take_of_length_le (by decide)]
 refine sm_congr fun p hp => ?_
 refine o1_2 (List.mem_flatMap.mp hp) fun i hi hj => ?_
 refine o1_2 (List.mem_map.mp hj) fun j hj' zc => ?_; obtain rfl := zc
 exact h i j (List.mem_range.mp hi) (List.mem_range.mp hj')
theorem turned_eq {sig : List Nat} {ns : List (List Nat)} {lt gt : Nat → Nat → Nat → Bool} {ts : Nat → Tab} (hH : Hands ns ts lt gt) (hN : NamesOk sig ns) (hn : ns.length = 6) (tk : Nat → Nat) {a b : Nat} (ha : a < 6) (hb : b < 6) :
  diffN (tri 0 6 (lstF ns (ts a))) (tri 0 6 (lstF ns (ts b))) 15 = apAll (ts a) (ts b) (fun p => entE ns tk p 6) ns := by
 rw [apAll_sum hN hn tk]
 refine diff_sum (D := fun i j => apD (ts a) (ts b) (ns.getD i []) (ns.getD j [])) (fun i => ?_) fun i j hi hj => ?_
 ·unfold apD; rw [ltN_irr (ltT_irr _)]; rfl
 ·exact diff_pair (sig := []) (hH.tot i j a hi (by exact Nat.lt_trans (by assumption) (by assumption)) ha (by with_reducible exact Nat.ne_of_gt (by assumption))) (hH.tot i j b hi (by exact Nat.lt_trans (by assumption) (by assumption)) hb (by with_reducible exact Nat.ne_of_gt (by assumption)))
end
section
variable {W : Wd} {n : Nat} {env : Env} {wr : List Str} {σ : Sto}
theorem binds39 : Binds (top 39) ["script"] := fun name qual kV doc pm an cdv ct vals hv => by
 refine o1_1 (list1 hv) fun _ zb => ?_; obtain rfl := zb; rfl
set_option genInjectivity false in
structure LawW (W : Wd) where
 (f24 f25 f26 f27 f28 f29 f30 f31 f32 f33 f34 f35 f36 f37 f38 f4 f5 fa fn fh fq ff fs fp fc P1 P2 bm : Addr)
 ob : Obj
 t : Tok
 h24 : FnAt W "_law_numbers" 24 f24
 h25 : FnAt W "_law_signs" 25 f25
 h26 : FnAt W "_law_names" 26 f26
 h27 : FnAt W "_law_tables" 27 f27
 h28 : FnAt W "_law_written" 28 f28
 h29 : FnAt W "_law_spelled" 29 f29
 h30 : FnAt W "_law_profile" 30 f30
 h31 : FnAt W "_law_summed" 31 f31
 h32 : FnAt W "_law_places" 32 f32
 h33 : FnAt W "_law_answers" 33 f33
 h34 : FnAt W "_law_backwards" 34 f34
 h35 : FnAt W "_law_due" 35 f35
 h36 : FnAt W "_law_listings" 36 f36
 h37 : FnAt W "_law_otherwise" 37 f37
 h38 : FnAt W "_law_apart" 38 f38
 h4 : FnAt W "add_func_stats" 4 f4
 h5 : FnC W "add_callers" 5 f5
 hF : WFns W fa fn fh fq ff fs fp fc
 hp1 : W.Top "_twin_re_1" (.ref P1)
 hP1 : Re.PatOb W.h₀ P1 Re.code1 true
 hp2 : W.Top "_twin_re_2" (.ref P2)
 hP2 : Re.PatOb W.h₀ P2 Re.code2 false
 hc : W.Top "CRLF" (.str (S [13, 10]) t)
 hB : BMod W.h₀ mainGlobals W.mg bm ob
 T : TCls W
 Q : QCls W
 en : W.Top "enumerate" (.type "enumerate")
 le : W.Top "len" (.builtin "len")
 ra : W.Top "range" (.type "range")
 so : W.Top "sorted" (.builtin "sorted")
 st : W.Top "str" (.type "str")
 su : W.Top "sum" (.builtin "sum")
 tu : W.Top "tuple" (.type "tuple")
 zi : W.Top "zip" (.type "zip")
 is : W.Top "isinstance" (.builtin "isinstance")
theorem wrows_len (d : List Nat) (ns : List (List Nat)) : (wrows d ns 6).length = 6 := by simp [wrows]
theorem flat_wrows (d : List Nat) (ns : List (List Nat)) : Flat 4 (.list (wrows d ns 6)) := by
 refine .list fun q hq => ?_
 refine o1_2 (List.mem_map.mp hq) fun k _ zc => ?_; obtain rfl := zc
 refine .list fun q hq => ?_
 simp only [List.mem_cons, List.not_mem_nil, or_false] at hq
 rcases hq with rfl | rfl | rfl | rfl | rfl | rfl <;> constructor
theorem tree_prof (m : Prof) : Tree 6 (.dict (profPV m)) := by
 refine .dict fun e he => ?_
 refine o1_2 (List.mem_map.mp he) fun x _ zc => ?_; obtain rfl := zc
 refine .tuple fun q hq => ?_
 simp only [List.mem_cons, List.not_mem_nil, or_false] at hq
 rcases hq with rfl | rfl | rfl | rfl | rfl
 ·constructor
 ·constructor
 ·constructor
 ·constructor
 ·refine .dict fun e he => ?_
  refine o1_2 (List.mem_map.mp he) fun y _ zc => ?_; obtain rfl := zc
  refine .tuple fun q hq => ?_
  simp only [List.mem_cons, List.not_mem_nil, or_false] at hq
  rcases hq with rfl | rfl <;> constructor
theorem wrow_item {d : List Nat} {ns : List (List Nat)} {i : Nat} {p : PV} (h : ((enumPV (wrows d ns 6)).map PV.tuple)[i]? = some p) : i < 6 ∧ p = .tuple [.int (i : Int), wrow d i (ns.getD i [])] := by
 rw [List.getElem?_map] at h
 cases e : (enumPV (wrows d ns 6))[i]? with
 | none => rw [e] at h; cases h
 | some q =>
  rw [e] at h
  refine o1_2 (enumPV_inv e) fun r hr zc => ?_; obtain rfl := zc
  have hi : i < 6 := by have := (List.getElem?_eq_some_iff.mp hr).1; rwa [wrows_len] at this
  unfold wrows at hr
  rw [List.getElem?_map, List.getElem?_range hi] at hr
  refine ⟨hi, ?_⟩
  rw [← Option.some.inj hr] at h
  exact (Option.some.inj h).symm
def turnPV (ns : List (List Nat)) (k i : Nat) : List PV := (List.range i).map fun h => PV.int (diffN (tri 0 6 (lstF ns (tsAt k h))) (tri 0 6 (lstF ns (tsAt k ((h + 1) % 6)))) 15 : Int)
theorem tabs_item {sig : List Nat} {k h : Nat} (hh : h < 6) : ((tabs k).map fun t => PV.dict (tabPV sig t))[h]? = some (.dict (tabPV sig (tsAt k h))) := by rw [List.getElem?_map, tabs_get hh]; rfl
theorem flat_turn (ns : List (List Nat)) (k : Nat) : Flat 4 (.list (turnPV ns k 6)) := by
 refine .list fun q hq => ?_
 refine o1_2 (List.mem_map.mp hq) fun x _ zc => ?_; obtain rfl := zc
 exact .int
theorem law_ok {f : Addr} (hf : FnAt W "law" 39 f) (E : LawW W) {l : List Int} (hl : l.length ≤ 64) {Ψ : PV → Prop} (h : Ψ (.bool true)) : CallP W (n + 5) (.val (.ref f)) [.list (l.map .int)] Ψ := by
 have h24 := E.h24; have h25 := E.h25; have h26 := E.h26; have h27 := E.h27; have h28 := E.h28; have h29 := E.h29; have h30 := E.h30; have h31 := E.h31
 have h36 := E.h36; have h37 := E.h37; have h38 := E.h38
 have hen := E.en; have hle := E.le; have hra := E.ra
 have qtop := E.Q.cls.top_
 have qkeep := E.Q.cls.keep
 refine CallP.ob hf.toFnOb ["script"] binds39 fun qual L cdv => ?_
 refine Ex.cons ?_
 fail "e"
 refine CallS.of (numbers_ok h24 hen hl fun d hd hb => ?_)
 fail "e"
 refine SubS.of (SubP.list (p := .int ((d.getD 0 0 : Nat) : Int)) (by decide) (by decide) (by show _[0]? = _; exact nums_get (by with_reducible exact Om.ltEq (by assumption) (by decide))) ?_)
 fail "e"
 refine CallS.of (signs_ok h25 fun a b c hnd hC => ?_)
 generalize hsg : [a, b, c] = sig at hnd hC
 have hs3 : sig.length = 3 := by rw [← hsg]; rfl
 fail "e"
 refine CallS.of (names_ok h26 hle hd hs3 fun ns hn hN => ?_)
 have hlen : ∀ k, (ns.getD k []).length ≤ 5 := name_len hN hn
 fail "e"
 refine SubS.of (SubP.list (p := .int ((d.getD 6 0 : Nat) : Int)) (by decide) (by decide) (by show _[6]? = _; exact nums_get (by with_reducible exact Om.ltEq (by assumption) (by decide))) ?_)
 fail "e"
 refine CallS.of (tables_ok h27 hs3 hnd ?_)
 fail "e"
 refine CallS.of (written_ok h28 E.hF E.hp1 E.hP1 E.hp2 E.hP2 E.hc hle hen hd hn hN hC ?_)
 fail "e"
 refine CallS.of (profile_ok h30 E.h4 E.h5 E.tu E.zi E.is E.hB hen hle hra hd hn hN ?_)
 fail "e"
 refine CallS.of (spelled_ok h29 E.st hen hd hn hN hC ?_)
 refine CmpP.neList (flat_wrows d ns) (KTst.tsts ?_)
 refine iteP (by rfl) ?_
 fail "e"
 refine CallS.of (summed_ok h31 hen hle E.su hd hn hN ?_)
 refine CmpP.neDict (tree_prof _) (KTst.tsts ?_)
 refine iteP (by rfl) ?_
 fail "e"
 refine iteF (show (BoolOp.Or == BoolOp.And) = false from rfl) ?_
 fail "e"
 refine Ex1.comp1 false (by fail "wr") (by with_unfolding_all rfl) (CompSc.mk' (by with_unfolding_all rfl) (by with_unfolding_all rfl) (by decide)) (EvX.tuple (EvT'.enumerate (by rfl) (by rfl) hen ?_))
 fail "e"
 refine (i1_2 ([("names", .list (txs ns))]) ⟨fun x p hx => ?_⟩ (fun C => ?_))
 ·rw [List.mem_singleton] at hx; cases hx
  exact ⟨by fail "look", by decide, fun q => by cases (show some NameKind.cell = some NameKind.local from q)⟩
 refine compB.inv (fun i σ' acc => List.lookup (Str.ofString "names") σ' = some (SV.fz (.list (txs ns))) ∧ acc = (List.range i).map fun k => rowPV d k (ns.getD k [])) ⟨by fail "look", rfl⟩ ?_ ?_
 ·intro i p σ' acc hp oI Φ' kk; refine o0_2 oI fun g1 zb => ?_; clear oI; obtain rfl := zb
  refine o0_2 (wrow_item hp) fun hi zb => ?_; obtain rfl := zb
  have hnj : (txs ns)[i]? = some (.str (S (ns.getD i []))) := by rw [txs_get, ns_get hn hi]; rfl
  have hll := hlen i
  rw [show wrow d i (ns.getD i []) = .list [.str (S (colL d i (ns.getD i []) 0)), .str (S (colL d i (ns.getD i []) 1)), .str (S (colL d i (ns.getD i []) 2)), .str (S (colL d i (ns.getD i []) 3)), .str (S (colL d i (ns.getD i []) 4)), .bytes (Re.Bs (colL d i (ns.getD i []) 5))] from rfl]
  refine AsgX.tup (by rfl) ?_
  fail "e"
  refine CTs.yes ?_
  refine ⟨by rw [List.length_map, List.length_range]; exact Nat.le_trans (by with_reducible exact Nat.le_trans (Nat.le_of_lt (by assumption)) (by decide) : _ ≤ 64) (by decide), ?_⟩
  fail "e"
  refine SubS.of (SubP.list (k := 0) (by decide) (by decide) (by rfl) ?_)
  fail "e"
  refine CallS.of (E.Q.make ?_)
  fail "e"
  refine SubS.of (SubP.list (k := 1) (by decide) (by decide) (by rfl) ?_)
  fail "e"
  refine SubS.of (SubP.list (k := 2) (by decide) (by decide) (by rfl) ?_)
  fail "e"
  refine SubS.of (SubP.list (k := 3) (by decide) (by decide) (by rfl) ?_)
  fail "e"
  refine CallS.of (E.Q.make ?_)
  fail "e"
  refine SubS.of (SubP.list (k := 4) (by decide) (by decide) (by rfl) ?_)
  fail "e"
  refine CallS.of (E.Q.make ?_)
  fail "e"
  refine SubS.of (SubP.list (k := 5) (by decide) (by decide) (by rfl) ?_)
  fail "e"
  refine SubS.of (SubP.list (Int.natCast_nonneg _) (by with_reducible exact Om.castLt (by assumption) (by decide)) (by rw [Int.toNat_natCast]; exact hnj) ?_)
  fail "e"
  refine CallS.of (CallP.lenS (by rw [S_len]; with_reducible exact Om.castLt' (by assumption) (by decide)) ?_)
  rw [S_len]
  fail "e"
  refine kk _ _ ⟨by fail "look", ?_⟩
  rw [List.range_succ, List.map_append]; rfl
 ·intro σ' acc oI; refine o0_2 oI fun g1 zb => ?_; clear oI; obtain rfl := zb
  intro c₂
  rw [show ((enumPV (wrows d ns 6)).map PV.tuple).length = 6 by rw [List.length_map]; simp [enumPV, wrows_len], if_neg (by decide)]
  rw [show ((List.range 6).map fun k => rowPV d k (ns.getD k [])) = rowsPV d ns from rfl]
  fail "e"
  refine CallS.of (listings_ok h36 E.h32 E.h33 E.h34 E.h35 hen hle hra E.so E.T (rows_ok E.Q E.is hN hn hC) (hands_ok hN hn hC) hd hs3 hn hN (fun h hh => keys_nodup hnd hC (pf0_all _ h hh)) ?_)
  have hll : (lstsPV ns (d.getD 6 0) 6).length = 6 := by rw [lstsPV, List.length_map, List.length_range]
  have hlg : ∀ i, i < 6 → (lstsPV ns (d.getD 6 0) 6)[i]? = some (.list (intsPV (tri 0 6 (lstF ns (tsAt (d.getD 6 0) i))))) := fun i hi => by
   unfold lstsPV; rw [List.getElem?_map, List.getElem?_range hi]; rfl
  generalize lstsPV ns (d.getD 6 0) 6 = LS at hll hlg
  fail "e"
  refine CmpP.eqLen (by rw [hll]; decide) (KTst.ite ?_)
  refine iteN (by decide) ?_
  fail "e"
  refine Ex1.comp1 false (by fail "wr") (by with_unfolding_all rfl) (CompSc.mk' (by with_unfolding_all rfl) (by with_unfolding_all rfl) (by decide)) (EvX.name (EvI.of ?_))
  fail "e"
  refine CallS.of (CallP.range1 ⟨_, IterP.range (m := 6) (by decide) (by decide) (by decide) (by decide) (by decide), ?_⟩)
  refine (i1_2 ([("listings", .list LS)]) ⟨fun x p hx => ?_⟩ (fun C => ?_))
  ·rw [List.mem_singleton] at hx; cases hx
   exact ⟨by fail "look", by decide, fun q => by cases (show some NameKind.cell = some NameKind.local from q)⟩
  refine compB.inv (fun i σ' acc => List.lookup (Str.ofString "listings") σ' = some (SV.fz (.list LS)) ∧ acc = turnPV ns (d.getD 6 0) i) ⟨by fail "look", rfl⟩ ?_ ?_
  ·intro i p σ' acc hp oI Φ' kk; refine o0_2 oI fun k1 zb => ?_; clear oI; obtain rfl := zb
   refine o0_2 (range_get0 hp) fun hi zb => ?_; obtain rfl := zb
   have hi2 : (i + 1) % 6 < 6 := Nat.mod_lt _ (by decide)
   refine AsgX.name (by fail "wr") ?_
   refine CTs.yes ?_
   refine ⟨by rw [turnPV, List.length_map, List.length_range]; exact Nat.le_trans (by with_reducible exact Nat.le_trans (Nat.le_of_lt (by assumption)) (by decide) : _ ≤ 64) (by decide), ?_⟩
   fail "e"
   refine SubS.of (SubP.list (Int.natCast_nonneg _) (by with_reducible exact Om.castLt (by assumption) (by decide)) (by rw [Int.toNat_natCast]; exact hlg i hi) ?_)
   fail "e"
   refine SubS.of (SubP.list (Int.natCast_nonneg _) (by with_reducible exact Om.castLt (by assumption) (by decide)) (by rw [Int.toNat_natCast]; exact hlg _ hi2) ?_)
   fail "e"
   refine CallS.of (otherwise_ok h37 hle hra rfl rfl ?_)
   refine kk _ _ ⟨by fail "look", ?_⟩
   rw [turnPV, turnPV, List.range_succ, List.map_append]; rfl
  ·intro σ' acc oI; refine o0_2 oI fun k1 zb => ?_; clear oI; obtain rfl := zb
   intro c₃
   rw [rangePV_len, if_neg (by decide)]
   fail "e"
   refine Ev.comp1 (CompSc.mk' (by with_unfolding_all rfl) (by with_unfolding_all rfl) (by decide)) (EvX.name (EvI.of ?_))
   fail "e"
   refine CallS.of (CallP.range1 ⟨_, IterP.range (m := 6) (by decide) (by decide) (by decide) (by decide) (by decide), ?_⟩)
   refine (i1_2 ([("profile", .dict (profPV (prof ns (tickN d) 6))), ("tables", tabsPV sig (d.getD 6 0))]) ⟨fun x p hx => ?_⟩ (fun C => ?_))
   ·rcases List.mem_cons.mp hx with hx | hx
    ·cases hx
     exact ⟨by fail "look", by decide, fun q => by cases (show some NameKind.cell = some NameKind.local from q)⟩
    ·rw [List.mem_singleton] at hx; cases hx
     exact ⟨by fail "look", by decide, fun q => by cases (show some NameKind.cell = some NameKind.local from q)⟩
   refine compB.inv (fun i σ' acc => List.lookup (Str.ofString "profile") σ' = some (SV.fz (.dict (profPV (prof ns (tickN d) 6)))) ∧ List.lookup (Str.ofString "tables") σ' = some (SV.fz (tabsPV sig (d.getD 6 0))) ∧ acc = turnPV ns (d.getD 6 0) i) ⟨by fail "look", by fail "look", rfl⟩ ?_ ?_
   ·intro i p σ' acc hp oI Φ' kk; refine o0_3 oI fun k1 k2 zc => ?_; clear oI; obtain rfl := zc
    refine o0_2 (range_get0 hp) fun hi zb => ?_; obtain rfl := zb
    have hi2 : (i + 1) % 6 < 6 := Nat.mod_lt _ (by decide)
    refine AsgX.name (by fail "wr") ?_
    refine CTs.yes ?_
    refine ⟨by rw [turnPV, List.length_map, List.length_range]; exact Nat.le_trans (by with_reducible exact Nat.le_trans (Nat.le_of_lt (by assumption)) (by decide) : _ ≤ 64) (by decide), ?_⟩
    fail "e"
    refine SubS.of (SubP.list (Int.natCast_nonneg _) (by with_reducible exact Om.castLt (by assumption) (by decide)) (by rw [Int.toNat_natCast]; exact tabs_item hi) ?_)
    fail "e"
    refine SubS.of (SubP.list (Int.natCast_nonneg _) (by with_reducible exact Om.castLt (by assumption) (by decide)) (by rw [Int.toNat_natCast]; exact tabs_item hi2) ?_)
    fail "e"
    refine CallS.of (apart_ok h38 hn hN ?_)
    rw [← turned_eq (hands_ok hN hn hC) hN hn (tickN d) hi hi2]
    refine kk _ _ ⟨by fail "look", by fail "look", ?_⟩
    rw [turnPV, turnPV, List.range_succ, List.map_append]; rfl
   ·intro σ' acc oI; refine o0_3 oI fun k1 k2 zc => ?_; clear oI; obtain rfl := zc
    rw [rangePV_len]
    refine CmpP.eqList (flat_turn _ _) ?_
    exact h
end
section
def hid (h : Heap) (P : Addr) : Heap := { h with objs := h.objs.setIfInBounds P { cls := .none, data := .freed } }
theorem hid_ne {h : Heap} {P b : Addr} (n : b ≠ P) : (hid h P).get? b = h.get? b := by
 have e : (hid h P).objs[b]? = h.objs[b]? := Array.getElem?_setIfInBounds_ne (Ne.symm n)
 unfold Heap.get?; rw [e]
theorem hid_self {h : Heap} {P : Addr} : (hid h P).get? P = none := by
 have e : (hid h P).objs[P]? = if P < h.objs.size then some { cls := .none, data := .freed } else none := Array.getElem?_setIfInBounds_self
 unfold Heap.get?
 rw [e]
 by_cases q : P < h.objs.size
 ·rw [if_pos q]
 ·rw [if_neg q]
theorem hid_get {h : Heap} {P b : Addr} {o : Obj} (e : (hid h P).get? b = some o) : b ≠ P ∧ h.get? b = some o := by
 have n : b ≠ P := fun q => by rw [q, hid_self] at e; cases e
 exact ⟨n, (hid_ne n).symm.trans e⟩
theorem hid_of {h : Heap} {P b : Addr} {o : Obj} (n : b ≠ P) (e : h.get? b = some o) : (hid h P).get? b = some o := (hid_ne n).trans e
theorem hid_ns {h : Heap} {P a : Addr} {m : Str → Option Value} (n : a ≠ P) (x : h.Ns a m) : (hid h P).Ns a m := x.at' fun o e => hid_of n e
def funK (K : Frag) (a : Addr) : Option (Value × Arguments × List Stmt × Scope × Value × Addr × List (Str × Addr) × Addr × Value × Str) := match K.lookup a with
 | some ⟨c, _, .func fd, _⟩ => (match fd.body with
   | .stmts b => some (c, fd.params, b, fd.scope, fd.defaults, fd.globals, fd.closure, fd.builtins, fd.code, fd.qualname)
   | _ => none)
 | _ => none
theorem funK_get {K : Frag} {a : Addr} {c : Value} {ar : Arguments} {b : List Stmt} {sc : Scope} {dV cdv : Value} {g bu : Addr} {cl : List (Str × Addr)} {q : Str} (e : funK K a = some (c, ar, b, sc, dV, g, cl, bu, cdv, q)) :
  ∃ o fd, K.lookup a = some o ∧ o.cls = c ∧ o.data = .func fd ∧ fd.body = .stmts b ∧ fd.params = ar ∧ fd.scope = sc ∧ fd.defaults = dV ∧ fd.globals = g ∧ fd.closure = cl ∧ fd.builtins = bu ∧ fd.code = cdv ∧ fd.qualname = q := by
 unfold funK at e
 split at e
 ·rename_i c' d fd sl hl
  split at e
  ·rename_i b' hb
   cases e
   exact ⟨_, fd, hl, rfl, rfl, hb, rfl, rfl, rfl, rfl, rfl, rfl, rfl, rfl⟩
  ·cases e
 ·cases e
section
variable {W : Wd} {K : Frag} (X : ∀ a o, K.lookup a = some o → W.h₀.get? a = some o)
include X
theorem codeRecK {c : Addr} {q : Str} (e : codeIn K (.ref c) q = true) : W.h₀.CodeRec (.ref c) q := codeRec_of (K := K) (h := W.h₀) X e
theorem mt_of {st : Stmt} {dV : Value} {f c : Addr} {q : Str} (e : funK K f = some (.type "function", fnA st, fnB st, fnS st, dV, mainGlobals, [], builtinsNs, .ref c, q)) (hc : codeIn K (.ref c) q = true) : MtOb W st dV f := by
 obtain ⟨o, fd, h1, h2, h3, h4, h5, h6, h7, h8, h9, h10, h11, h12⟩ := funK_get e
 refine ⟨⟨o, fd.name, q, fd.kwdefaults, fd.doc, fd.pyModule, fd.annotations, .ref c, fd.closureTuple, X _ _ h1, h2, ?_, codeRecK X hc⟩⟩
 rw [h3]
 cases fd
 simp only at h4 h5 h6 h7 h8 h9 h10 h11 h12
 subst h4 h5 h6 h7 h8 h9 h10 h11 h12
 rfl
theorem fnAt_of {x : Str} {i : Nat} {f c : Addr} {q : Str} (hm : W.mg x = some (.ref f)) (e : funK K f = some (.type "function", fnA (top i), fnB (top i), fnS (top i), .none, mainGlobals, [], builtinsNs, .ref c, q)) (hc : codeIn K (.ref c) q = true) : FnAt W x i f :=
 ⟨(mt_of X e hc).fn, hm⟩
def nsK (K : Frag) (a : Addr) : Option (Array DictEntry) := match K.lookup a with
 | some ⟨_, _, .dict es _, _⟩ => if es.toList.all (fun e => match e.key with | .str _ _ => true | _ => false) then some es else none
 | _ => none
omit X in
theorem nsK_get {a : Addr} {es : Array DictEntry} (e : nsK K a = some es) : ∃ o ep, K.lookup a = some o ∧ o.data = .dict es ep ∧ StrKeys es := by
 unfold nsK at e
 split at e
 ·rename_i c d es' ep sl hl
  split at e
  ·rename_i ha
   cases e
   refine ⟨_, ep, hl, rfl, fun x hx => ?_⟩
   have := List.all_eq_true.mp ha x (by simpa using hx)
   split at this
   ·rename_i s t q; exact ⟨s, t, q⟩
   ·cases this
  ·cases e
 ·cases e
theorem ns_of {a : Addr} {es : Array DictEntry} (e : nsK K a = some es) : W.h₀.Ns a (nsFind es) := by
 obtain ⟨o, ep, h1, h2, h3⟩ := nsK_get e
 exact ⟨o, es, ep, X _ _ h1, h2, h3, fun _ => rfl⟩
end
def entK (K : Frag) (a : Addr) (x : Str) : Option Value := (nsK K a).elim none fun es => nsFind es x
theorem ent_of {a : Addr} {K : Frag} {x : Str} {es : Array DictEntry} (e : nsK K a = some es) : entK K a x = nsFind es x := by unfold entK; rw [e]; rfl
theorem ns_ent {W : Wd} {K : Frag} (X : ∀ a o, K.lookup a = some o → W.h₀.get? a = some o) {a : Addr} (h : (nsK K a).isSome = true) : W.h₀.Ns a (entK K a) := by
 cases e : nsK K a with
 | none => rw [e] at h; cases h
 | some es => rw [show entK K a = nsFind es from funext fun x => ent_of e]; exact ns_of X e
theorem tab_ne {h : Heap} {P b : Addr} {o : Obj} (hP : h.get? P = some { cls := .none, data := .fields #[] }) (e : h.get? b = some o) (n : o.data ≠ .fields #[]) : b ≠ P := fun q => by
 rw [q, hP] at e; cases e; exact n rfl
theorem tab_hid {h : Heap} {P b : Addr} {o : Obj} (hP : h.get? P = some { cls := .none, data := .fields #[] }) (n : o.data ≠ .fields #[]) (e : h.get? b = some o) : (hid h P).get? b = some o := hid_of (tab_ne hP e n) e
theorem tab_ns {h : Heap} {P a : Addr} {m : Str → Option Value} (hP : h.get? P = some { cls := .none, data := .fields #[] }) (x : h.Ns a m) : (hid h P).Ns a m :=
 x.at' fun o e => tab_hid hP (let ⟨o', es, ep, a, b, _⟩ := x; by rw [a] at e; cases e; rw [b]; nofun) e
theorem tab_code {h : Heap} {P : Addr} {cd : Value} {q : Str} (hP : h.get? P = some { cls := .none, data := .fields #[] }) (x : h.CodeRec cd q) : (hid h P).CodeRec cd q :=
 let ⟨c, o, vs, t, a, b, d, e⟩ := x; ⟨c, o, vs, t, a, tab_hid hP (by rw [d]; intro r; cases r; simp at e) b, d, e⟩
theorem tab_bmod {h : Heap} {P g bm : Addr} {mg : Str → Option Value} {ob : Obj} (hP : h.get? P = some { cls := .none, data := .fields #[] }) (x : BMod h g mg bm ob) : BMod (hid h P) g mg bm ob :=
 ⟨tab_ns hP x.ns, x.name, x.ne, tab_hid hP (by rw [x.data]; nofun) x.obj, x.cls, x.dict, x.data⟩
theorem tab_read {h : Heap} {P : Addr} {p : Program} {loose : List Str} {mg mb : Str → Option Value} (hP : h.get? P = some { cls := .none, data := .fields #[] }) (x : TopRead p loose mg mb h) : TopRead p loose mg mb (hid h P) :=
 ⟨tab_ns hP x.g, tab_ns hP x.b, let ⟨m, a, b⟩ := x.nolimit; ⟨m, tab_ns hP a, b⟩, x.builtins, x.free⟩
theorem lookup_mem {α : Type} : ∀ {l : List (Addr × α)} {a : Addr} {o : α}, l.lookup a = some o → (a, o) ∈ l
 | [], _, _, h => by cases h
 | (b, u) :: l, a, o, h => by
  rw [List.lookup_cons] at h
  split at h
  ·rename_i q
   cases h
   rw [eq_of_beq q]
   exact .head _
  ·exact .tail _ (lookup_mem h)
def tabsNot (K : Frag) : Bool := K.all fun x => match x.2.data with | .fields vs => vs.size != 0 | _ => true
theorem tab_in {h : Heap} {P : Addr} {K : Frag} (hP : h.get? P = some { cls := .none, data := .fields #[] }) (hk : tabsNot K = true) (x : K.In h) : K.In (hid h P) := fun a o e => by
 refine tab_hid hP (fun r => ?_) (x a o e)
 have hm : (a, o) ∈ K := lookup_mem e
 have := List.all_eq_true.mp hk _ hm
 rw [show (a, o).2.data = .fields #[] from r] at this
 simp at this
def fnN : Stmt → Str
 | .FunctionDef (name := s) .. => s
 | _ => Str.ofString ""
def fnP : Stmt → Pos
 | .FunctionDef (pos := s) .. => s
 | _ => ⟨0, 0, 0, 0⟩
def dOf (i : Nat) : DefRec := ⟨fnN (top i), fnA (top i), fnB (top i), fnS (top i), fnP (top i)⟩
def recI : List Nat := [3, 4, 5, 9, 14, 15, 19, 20, 21, 22, 24, 25, 26, 27, 28, 29, 30, 31, 32, 33, 34, 35, 36, 37, 38, 39]
theorem recs_eq : recsOf qP = recI.map dOf := by kernel_rfl
theorem rec_mem {i : Nat} (h : i ∈ recI) : dOf i ∈ recsOf qP := by rw [recs_eq]; exact List.mem_map_of_mem h
section
variable {mean : ExcName → Option Value} {L : List Str} {mg mb : Str → Option Value} {h : Heap} {P : Addr}
theorem fn_T {W : Wd} (T : Top qP L mean mg mb h) (hP : h.get? P = some { cls := .none, data := .fields #[] }) (e0 : W.h₀ = hid h P) (e1 : W.mg = mg) {i : Nat} (hm : i ∈ recI) {x : Str} (hx : fnN (top i) = x) : ∃ a, FnAt W x i a := by
 refine o5_4 (T.fn (dOf i) (rec_mem hm)) fun a o pm code doc h1 h2 h3 h4 => ?_
 refine ⟨a, ⟨⟨o, fnN (top i), fnN (top i), .none, doc, pm, none, code, .none, ?_, h3, ?_⟩⟩, ?_⟩
 ·rw [e0]; exact tab_hid hP (by rw [h3]; nofun) h2
 ·rw [e0]; exact tab_code hP h4
 ·rw [e1, ← hx]; exact h1
theorem fnC_T {W : Wd} (T : Top qP L mean mg mb h) {i : Nat} (hm : i ∈ recI) {x : Str} (hx : fnN (top i) = x) {a c : Addr} {o : Obj} {fd : FuncData} (g1 : mg (fnN (top i)) = some (.ref a)) (g2 : h.get? a = some o) (g3 : o.data = .func fd) (g4 : fd.code = .ref c) (g5 : h.IsCode c P #[]) (g6 : h.TableAt c P #[])
  (e0 : W.h₀ = hid h P) (e1 : W.mg = mg) (e2 : W.P = P) : FnC W x i a := by
 have hP := g6.2
 refine o5_4 (T.fn (dOf i) (rec_mem hm)) fun a' o' pm code doc h1 h2 h3 h4 => ?_
 have h1 : mg (fnN (top i)) = some (.ref a') := h1
 rw [h1] at g1; cases g1
 rw [g2] at h2; cases h2
 rw [g3] at h3; cases h3
 refine ⟨?_, o, fnN (top i), fnN (top i), .none, doc, pm, none, code, .none, ?_, g3, ?_, ?_⟩
 ·rw [e1, ← hx]; exact h1
 ·rw [e0]; exact tab_hid hP (by rw [g3]; nofun) g2
 ·rw [e0]; exact tab_code hP h4
 ·have g4 : code = .ref c := g4
  refine o10_11 g5 fun oc vs file tf flags tg inF text tt op k1 k2 k3 k4 k5 k6 k7 _ _ _ k8 => ?_; clear g5
  refine o0_2 g6 fun za _ => ?_; clear g6; refine o2_4 za fun oc' vs' q1 q2 q3 q4 => ?_; clear za
  rw [k1] at q1; cases q1
  rw [k2] at q3; cases q3
  exact ⟨c, oc, vs, file, tf, flags, tg, inF, text, tt, g4, by rw [e0]; exact hid_of k8 k1, q2, k2, by rw [e2]; exact q4, k4, k5, k6, k7⟩
end
theorem tabsNot_KK (P : Params) : tabsNot (KK P) = true := by kernel_rfl
noncomputable def WW (w : World) (s : Shared) {mean : ExcName → Option Value} {mg mb : Str → Option Value} {P : Addr} (T : Top qP (looseW qP looseP) mean mg mb s.heap) (hP : s.heap.get? P = some { cls := .none, data := .fields #[] }) (X : (KK w.params).In s.heap) : Wd where
 prog := PySem.Challenge.rw_xh0030_01.row.prog
 w := w
 h₀ := hid s.heap P
 K := KK w.params
 view := qP
 loose := looseW qP looseP
 mg := mg
 mb := mb
 osv := s.os
 T := tab_read hP (topRead_of T)
 X := tab_in hP (tabsNot_KK _) X
 P := P
 hP := hid_self
 tab := #[]
section
variable {w : World} {s : Shared} {mean : ExcName → Option Value} {mg mb : Str → Option Value} {P : Addr} (T : Top qP (looseW qP looseP) mean mg mb s.heap) (hP : s.heap.get? P = some { cls := .none, data := .fields #[] }) (X : (KK w.params).In s.heap)
theorem mgK {x : Str} {v : Value} (e : nsIn (KK w.params) mainGlobals x = some (some v)) : (WW w s T hP X).mg x = some v := mg_of X T.g e
theorem topB {x : Str} {v : Value} (e : nsIn (KK w.params) mainGlobals x = some none) (b : bootBuiltins x = some v) (n : x ≠ "__name__") : (WW w s T hP X).Top x v := .inr ⟨mg_none_of X T.g e, b, n⟩
noncomputable def tcls : TCls (WW w s T hP X) where
 C := 55
 mN := entK (KK w.params) 54
 cls := ⟨mgK T hP X (by kernel_rfl), KeepOk.of_K (by kernel_rfl), ⟨"TupleComp", "TupleComp", 54, [.type "object"], [], [], none, none, none, none, some (.str "TupleComp" 284), some (.str "TupleComp" 292), some (.bool true), (WW w s T hP X).X 55 _ (by kernel_rfl), ns_ent (K := KK w.params) (WW w s T hP X).X (by kernel_rfl)⟩⟩
 fi := 45
 fc := 52
 init := by kernel_rfl
 comp := by kernel_rfl
 mi := mt_of (K := KK w.params) (WW w s T hP X).X (c := 44) (q := "TupleComp.__init__") (by kernel_rfl) (by kernel_rfl)
 mc := mt_of (K := KK w.params) (WW w s T hP X).X (c := 51) (q := "TupleComp.compare") (by kernel_rfl) (by kernel_rfl)
 sa := by kernel_rfl
 ga := by kernel_rfl
 gt := by kernel_rfl
 fl := by kernel_rfl
noncomputable def qcls : QCls (WW w s T hP X) where
 C := 210
 mN := entK (KK w.params) 209
 cls := ⟨mgK T hP X (by kernel_rfl), KeepOk.of_K (by kernel_rfl), ⟨"QName", "QName", 209, [.type "object"], [], [], none, none, none, none, some (.str "QName" 490), some (.str "QName" 498), some (.bool true), (WW w s T hP X).X 210 _ (by kernel_rfl), ns_ent (K := KK w.params) (WW w s T hP X).X (by kernel_rfl)⟩⟩
 fi := 151
 fl := 186
 fg := 200
 dT := 144
 dO := (i2_2 ({ cls := .type "tuple", data := .seq #[.none] }) _ ((WW w s T hP X).X 144 _ (by kernel_rfl)) rfl)
 init := by kernel_rfl
 lt := by kernel_rfl
 gt := by kernel_rfl
 mi := mt_of (K := KK w.params) (WW w s T hP X).X (c := 150) (q := "QName.__init__") (by kernel_rfl) (by kernel_rfl)
 ml := mt_of (K := KK w.params) (WW w s T hP X).X (c := 185) (q := "QName.__lt__") (by kernel_rfl) (by kernel_rfl)
 mg := mt_of (K := KK w.params) (WW w s T hP X).X (c := 199) (q := "QName.__gt__") (by kernel_rfl) (by kernel_rfl)
 sa := by kernel_rfl
 ga := by kernel_rfl
 tx := by kernel_rfl
end
theorem rep_ints {W : Wd} {G : PH} {vs : List Value} {l : List Int} (h : IntsAre vs l) : Reps W G (l.map .int) vs := by
 induction h with
 | nil => exact Reps.nil
 | cons n t _ ih => exact Reps.cons Rep.i ih
theorem lawW {w : World} {s : Shared} {mean : ExcName → Option Value} {mg mb : Str → Option Value} {P : Addr} (T : Top qP (looseW qP looseP) mean mg mb s.heap) (hP : s.heap.get? P = some { cls := .none, data := .fields #[] }) (X : (KK w.params).In s.heap)
  {a c : Addr} {o : Obj} {fd : FuncData} (g1 : mg (fnN (top 5)) = some (.ref a)) (g2 : s.heap.get? a = some o) (g3 : o.data = .func fd) (g4 : fd.code = .ref c) (g5 : s.heap.IsCode c P #[]) (g6 : s.heap.TableAt c P #[]) : Nonempty (LawW (WW w s T hP X)) := by
 have F := fun (i : Nat) (x : Str) (hm : i ∈ recI) (hx : fnN (top i) = x) => fn_T (W := WW w s T hP X) T hP rfl rfl hm hx
 refine o1_1 (F 24 "_law_numbers" (by decide) (by kernel_rfl)) fun f24 h24 => ?_
 refine o1_1 (F 25 "_law_signs" (by decide) (by kernel_rfl)) fun f25 h25 => ?_
 refine o1_1 (F 26 "_law_names" (by decide) (by kernel_rfl)) fun f26 h26 => ?_
 refine o1_1 (F 27 "_law_tables" (by decide) (by kernel_rfl)) fun f27 h27 => ?_
 refine o1_1 (F 28 "_law_written" (by decide) (by kernel_rfl)) fun f28 h28 => ?_
 refine o1_1 (F 29 "_law_spelled" (by decide) (by kernel_rfl)) fun f29 h29 => ?_
 refine o1_1 (F 30 "_law_profile" (by decide) (by kernel_rfl)) fun f30 h30 => ?_
 refine o1_1 (F 31 "_law_summed" (by decide) (by kernel_rfl)) fun f31 h31 => ?_
 refine o1_1 (F 32 "_law_places" (by decide) (by kernel_rfl)) fun f32 h32 => ?_
 refine o1_1 (F 33 "_law_answers" (by decide) (by kernel_rfl)) fun f33 h33 => ?_
 refine o1_1 (F 34 "_law_backwards" (by decide) (by kernel_rfl)) fun f34 h34 => ?_
 refine o1_1 (F 35 "_law_due" (by decide) (by kernel_rfl)) fun f35 h35 => ?_
 refine o1_1 (F 36 "_law_listings" (by decide) (by kernel_rfl)) fun f36 h36 => ?_
 refine o1_1 (F 37 "_law_otherwise" (by decide) (by kernel_rfl)) fun f37 h37 => ?_
 refine o1_1 (F 38 "_law_apart" (by decide) (by kernel_rfl)) fun f38 h38 => ?_
 refine o1_1 (F 4 "add_func_stats" (by decide) (by kernel_rfl)) fun f4 h4 => ?_
 refine o1_1 (F 20 "_escape_attrib" (by decide) (by kernel_rfl)) fun fa ha => ?_
 refine o1_1 (F 22 "_escape_attrib_c14n" (by decide) (by kernel_rfl)) fun fn hn => ?_
 refine o1_1 (F 21 "_escape_attrib_html" (by decide) (by kernel_rfl)) fun fh hh => ?_
 refine o1_1 (F 14 "_quote_periods" (by decide) (by kernel_rfl)) fun fq hq => ?_
 refine o1_1 (F 15 "_fix_eols" (by decide) (by kernel_rfl)) fun ff hf => ?_
 refine o1_1 (F 3 "func_std_string" (by decide) (by kernel_rfl)) fun fs hs => ?_
 refine o1_1 (F 9 "parse257" (by decide) (by kernel_rfl)) fun fp hp => ?_
 refine o1_1 (F 19 "_escape_cdata" (by decide) (by kernel_rfl)) fun fc hc => ?_
 have h5 : FnC (WW w s T hP X) "add_callers" 5 a := fnC_T T (by decide) (by kernel_rfl) g1 g2 g3 g4 g5 g6 rfl rfl rfl
 refine o2_1 (bmod_of_top T) fun bm ob hB => ?_
 have XW := (WW w s T hP X).X
 have hP1 : Re.PatOb (WW w s T hP X).h₀ 117 Re.code1 true :=
  ⟨⟨{ cls := .type "re.Pattern", data := .fields #[.bytes #[40, 63, 109, 41, 94, 92, 46] 415, .int 8 428, .int 0 0, .none, .none, .ref 116, .int 1 0] }, .bytes #[40, 63, 109, 41, 94, 92, 46] 415, .int 8 428, .none, .none, 116, 0, 0, XW 117 _ (by kernel_rfl), rfl, rfl, rfl, { cls := .type "tuple", data := .seq #[.int 14 0, .int 4 0, .int 0 0, .int 1 0, .int 1 0, .int 6 0, .int 1 0, .int 16 0, .int 46 0, .int 1 0] }, _, _, XW 116 _ (by kernel_rfl), rfl, by decide +kernel⟩⟩
 have hP2 : Re.PatOb (WW w s T hP X).h₀ 122 Re.code2 false :=
  ⟨⟨{ cls := .type "re.Pattern", data := .fields #[.str (Str.ofString "(?:\\r\\n|\\n|\\r(?!\\n))") 431, .int 32 470, .int 0 0, .none, .none, .ref 121, .int 0 0] }, .str (Str.ofString "(?:\\r\\n|\\n|\\r(?!\\n))") 431, .int 32 470, .none, .none, 121, 0, 0, XW 122 _ (by kernel_rfl), rfl, rfl, rfl, { cls := .type "tuple", data := .seq #[.int 14 0, .int 9 0, .int 4 0, .int 1 0, .int 2 0, .int 16 0, .int 10 0, .int 16 0, .int 13 0, .int 0 0, .int 7 0, .int 7 0, .int 16 0, .int 13 0, .int 16 0, .int 10 0, .int 15 0, .int 18 0, .int 5 0, .int 16 0, .int 10 0, .int 15 0, .int 13 0, .int 11 0, .int 16 0, .int 13 0, .int 5 0, .int 5 0, .int 0 0, .int 16 0, .int 10 0, .int 1 0, .int 15 0, .int 2 0, .int 0 0, .int 1 0] }, _, _, XW 121 _ (by kernel_rfl), rfl, by decide +kernel⟩⟩
 exact ⟨⟨f24, f25, f26, f27, f28, f29, f30, f31, f32, f33, f34, f35, f36, f37, f38, f4, a, fa, fn, fh, fq, ff, fs, fp, fc, 117, 122, bm, ob, 472,
  h24, h25, h26, h27, h28, h29, h30, h31, h32, h33, h34, h35, h36, h37, h38, h4, h5, ⟨ha, hn, hh, hq, hf, hs, hp, hc⟩,
  .inl (mgK T hP X (by kernel_rfl)), hP1, .inl (mgK T hP X (by kernel_rfl)), hP2,
  .inl (mgK T hP X (by kernel_rfl)), tab_bmod hP hB, tcls T hP X, qcls T hP X,
  topB T hP X (by kernel_rfl) (by decide +kernel) (by decide), topB T hP X (by kernel_rfl) (by decide +kernel) (by decide), topB T hP X (by kernel_rfl) (by decide +kernel) (by decide),
  topB T hP X (by kernel_rfl) (by decide +kernel) (by decide), topB T hP X (by kernel_rfl) (by decide +kernel) (by decide), topB T hP X (by kernel_rfl) (by decide +kernel) (by decide),
  topB T hP X (by kernel_rfl) (by decide +kernel) (by decide), topB T hP X (by kernel_rfl) (by decide +kernel) (by decide), topB T hP X (by kernel_rfl) (by decide +kernel) (by decide)⟩⟩
theorem walk_ok : WalkO qP looseP (XL qP []) (Hook.says (kHook KK KKa KKa_eq)) PySem.Challenge.rw_xh0030_01.row.toRowW (dOf 39) [] fun f vs => PySem.call f vs := by
 intro w s₀ s₁ mg mb G Y fa o pm cd doc dV kV ho hd hcd hD hmg hg args vals as hpre hlay hrd hwl hlo
 have KX : (KK w.params).In s₁.heap := kIn_of Y
 have T := G.T
 refine o5_6 (T.tab (dOf 5) (rec_mem (by decide))) fun ac oc fd cc P g1 g2 g3 g4 g5 g6 => ?_
 have hP := g6.2
 clear hd hcd hD
 wrow_args hpre hlay hrd hwl hlo
 rename_i zs hs0 hlay0 hL1 hr1 hl2 as1 as2 la vs as3 hL ra w1 r0 hI hr hlen htrue
 have hl63 : zs.length ≤ 64 := by omega
 obtain ⟨E⟩ := lawW T hP KX g1 g2 g3 g4 g5 g6
 refine o1_1 (fn_T (W := WW w s₁ T hP KX) T hP rfl rfl (i := 39) (x := "law") (by decide) (by kernel_rfl)) fun f hf => ?_
 have efa : fa = f := by
  have a := hf.at_
  have b : (WW w s₁ T hP KX).mg (fnN (top 39)) = some (.ref fa) := hmg
  rw [show fnN (top 39) = ("law" : Str) by kernel_rfl, a] at b
  cases b; rfl
 subst efa
 refine o1_3 hL fun ol hol hlc zz => ?_; clear hL; refine o1_1 zz fun nl hld => ?_; clear zz
 have hol' : (hid s₁.heap P).get? la = some ol := tab_hid hP (by rw [hld]; nofun) hol
 have H : Hp (WW w s₁ T hP KX) (fun a => a = P) (hid s₁.heap P).get? s₁ := by
  refine ⟨fun b o e => (hid_get e).2, fun b o e => (hid_get e).2, fun a ha => ?_, rfl, .of_eq hg, rfl, ⟨_, #[], hP, rfl, trivial, rfl, #[], rfl⟩⟩
  subst ha; exact ⟨⟨_, hP⟩, hid_self⟩
 have R : Room callerA (0 + 5) := ⟨rfl, by decide, by decide⟩
 have rl : Rep (WW w s₁ T hP KX) (hid s₁.heap P).get? (.list (zs.map .int)) (.ref la) := by
  exact i4_5 la ol vs.toArray nl rfl hol' hlc hld (rep_ints hI)
 have key := law_ok (n := 0) hf E hl63 (Ψ := fun p => p = .bool true) rfl callerA _ _ s₁ (.ref fa) [.ref la] R H (rfl) (Reps.cons rl Reps.nil)
 refine wpAny_mono key (fun v s' ⟨G', p, gle, H', hle, rp, hp⟩ => ?_) fun _ _ x => x.elim
 subst hp
 have := rp.bool_inv; subst this
 have hold : OldK s₁.heap s'.heap := by
  refine ⟨fun b o e => ?_, fun b o e => ?_⟩
  ·by_cases q : b = P
   ·subst q
    rw [hP] at e; cases e
    refine o2_5 H'.ps fun o' ps e1 e2 e3 e4 zz => ?_; refine o1_1 zz fun more e5 => ?_; clear zz
    subst e4
    refine .inr (.inl ⟨g6.isCodeTable, rfl, #[], more, rfl, ?_⟩)
    have e6 : ps = #[] ++ more := e5
    rw [← e6]; exact e1
   ·exact .inl (H'.base b o (hid_of q e))
  ·by_cases q : b = P
   ·subst q; refine o2_2 H'.ps fun o' _ e1 _ => ?_; exact ⟨o', e1⟩
   ·exact ⟨o, H'.base b o (hid_of q e)⟩
 refine ⟨.inl (i3_5 (.bool true) (.bool true) ([]) rfl (fun cls => ?_) (.bool true) ?_ (fun _ => ⟨.nil, nofun⟩)), hold, H'.os, H'.gens⟩
 ·rfl
 ·kernel_rfl
theorem hd_left : LeftO PySem.Challenge.rw_xh0030_01.row.prog qP looseP XtP (Hook.obs (kHook KK KKa KKa_eq)) (Hook.val (kHook KK KKa KKa_eq)) 4430 := leftO_of hd_both
end
end Mine
theorem PySem.Challenge.cw_xh0030_01_holds : PySem.Challenge.rw_xh0030_01.Holds := by
 refine PySem.W.holds_law Mine.said fun said => ?_
 refine PySem.W.holds_open (XP := XL Mine.qP []) (YP := Hook.says (kHook Mine.KK Mine.KKa Mine.KKa_eq)) (d := Mine.dOf 39) (kwd := []) Mine.hd_left (Hook.of (kHook Mine.KK Mine.KKa Mine.KKa_eq)) (Hook.keeps (kHook Mine.KK Mine.KKa Mine.KKa_eq))
  (fun s e => xl_of s (Bool.and_eq_true_iff.mp e).1) XL.keeps (by kernel_rfl) (by kernel_rfl) (by kernel_rfl) (fun s e => recFacts_of (Bool.and_eq_true_iff.mp e).2) (by kernel_rfl) said (by decide +kernel) ⟨rfl, rfl, rfl, rfl, rfl, by decide +kernel⟩ ?_ Mine.walk_ok
 w_witness2
end
