import PyProof.Rows.All
import Wide.All
import OpenK.AllK
import Wide.FinOn
import KE.BytesMake
import KE.KBytesWalk
import KE.KFromBytes
import KE.KIntText
import KE.KRevSl
import KE.KSuperObj
import KE.KxPercent
import KE.KxPercentT
import OpenK.KMore
import PyProof.Conv_int
import PyProof.Ns1
import PyProof.SliceStr2
import PyProof.StrCalls6
import PyProof.Walk
import PyProof.WalkLemmas
import Wide.BytesRules
import PySem.Challenge.RW_oc0071_01
set_option Elab.async false
set_option maxRecDepth 100000
set_option maxHeartbeats 4000000
local macro_rules | `(tactic| trivial) => `(tactic| with_unfolding_all rfl)
local macro_rules | `(tactic| exists $e:term) => `(tactic| with_reducible refine $e)
namespace Mine
open PySem PySem.W PySem.Spec PyProof.Rows PySem.Calls
theorem el_A {p q : Prop} {G : Prop} (H : p ∧ q) (k : p → q → G) : G := by
 obtain ⟨h0, h1⟩ := H
 exact k h0 h1
theorem el_E {A : Type} {p : A → Prop} {G : Prop} (H : ∃ a, p a) (k : ∀ a, p a → G) : G := by
 obtain ⟨a, h0⟩ := H
 exact k a h0
theorem el_AA {p q r : Prop} {G : Prop} (H : p ∧ q ∧ r) (k : p → q → r → G) : G := by
 obtain ⟨h0, h1, h2⟩ := H
 exact k h0 h1 h2
theorem el_AE {A : Type} {p : Prop} {q : A → Prop} {G : Prop} (H : p ∧ ∃ a, q a) (k : p → ∀ a, q a → G) : G := by
 obtain ⟨h0, a, h1⟩ := H
 exact k h0 a h1
theorem el_EA {A : Type} {p q : A → Prop} {G : Prop} (H : ∃ a, p a ∧ q a) (k : ∀ a, p a → q a → G) : G := by
 obtain ⟨a, h0, h1⟩ := H
 exact k a h0 h1
theorem el_EE {A B : Type} {p : A → B → Prop} {G : Prop} (H : ∃ a b, p a b) (k : ∀ a b, p a b → G) : G := by
 obtain ⟨a, b, h0⟩ := H
 exact k a b h0
theorem el_AAA {p q r s : Prop} {G : Prop} (H : p ∧ q ∧ r ∧ s) (k : p → q → r → s → G) : G := by
 obtain ⟨h0, h1, h2, h3⟩ := H
 exact k h0 h1 h2 h3
theorem el_AEA {A : Type} {p : Prop} {q r : A → Prop} {G : Prop} (H : p ∧ ∃ a, q a ∧ r a) (k : p → ∀ a, q a → r a → G) : G := by
 obtain ⟨h0, a, h1, h2⟩ := H
 exact k h0 a h1 h2
theorem el_EAA {A : Type} {p q r : A → Prop} {G : Prop} (H : ∃ a, p a ∧ q a ∧ r a) (k : ∀ a, p a → q a → r a → G) : G := by
 obtain ⟨a, h0, h1, h2⟩ := H
 exact k a h0 h1 h2
theorem el_EAE {A B : Type} {p : A → Prop} {q : A → B → Prop} {G : Prop} (H : ∃ a, p a ∧ ∃ b, q a b) (k : ∀ a, p a → ∀ b, q a b → G) : G := by
 obtain ⟨a, h0, b, h1⟩ := H
 exact k a h0 b h1
theorem el_EEA {A B : Type} {p q : A → B → Prop} {G : Prop} (H : ∃ a b, p a b ∧ q a b) (k : ∀ a b, p a b → q a b → G) : G := by
 obtain ⟨a, b, h0, h1⟩ := H
 exact k a b h0 h1
theorem el_EEE {A B C : Type} {p : A → B → C → Prop} {G : Prop} (H : ∃ a b c, p a b c) (k : ∀ a b c, p a b c → G) : G := by
 obtain ⟨a, b, c, h0⟩ := H
 exact k a b c h0
theorem el_AAAA {p q r s t : Prop} {G : Prop} (H : p ∧ q ∧ r ∧ s ∧ t) (k : p → q → r → s → t → G) : G := by
 obtain ⟨h0, h1, h2, h3, h4⟩ := H
 exact k h0 h1 h2 h3 h4
theorem el_EAAA {A : Type} {p q r s : A → Prop} {G : Prop} (H : ∃ a, p a ∧ q a ∧ r a ∧ s a) (k : ∀ a, p a → q a → r a → s a → G) : G := by
 obtain ⟨a, h0, h1, h2, h3⟩ := H
 exact k a h0 h1 h2 h3
theorem el_EAAE {A B : Type} {p q : A → Prop} {r : A → B → Prop} {G : Prop} (H : ∃ a, p a ∧ q a ∧ ∃ b, r a b) (k : ∀ a, p a → q a → ∀ b, r a b → G) : G := by
 obtain ⟨a, h0, h1, b, h2⟩ := H
 exact k a h0 h1 b h2
theorem el_EAEA {A B : Type} {p : A → Prop} {q r : A → B → Prop} {G : Prop} (H : ∃ a, p a ∧ ∃ b, q a b ∧ r a b) (k : ∀ a, p a → ∀ b, q a b → r a b → G) : G := by
 obtain ⟨a, h0, b, h1, h2⟩ := H
 exact k a h0 b h1 h2
theorem el_EEAA {A B : Type} {p q r : A → B → Prop} {G : Prop} (H : ∃ a b, p a b ∧ q a b ∧ r a b) (k : ∀ a b, p a b → q a b → r a b → G) : G := by
 obtain ⟨a, b, h0, h1, h2⟩ := H
 exact k a b h0 h1 h2
theorem el_EEEA {A B C : Type} {p q : A → B → C → Prop} {G : Prop} (H : ∃ a b c, p a b c ∧ q a b c) (k : ∀ a b c, p a b c → q a b c → G) : G := by
 obtain ⟨a, b, c, h0, h1⟩ := H
 exact k a b c h0 h1
theorem el_EEEE {A B C D : Type} {p : A → B → C → D → Prop} {G : Prop} (H : ∃ a b c d, p a b c d) (k : ∀ a b c d, p a b c d → G) : G := by
 obtain ⟨a, b, c, d, h0⟩ := H
 exact k a b c d h0
theorem el_AAAAA {p q r s t u : Prop} {G : Prop} (H : p ∧ q ∧ r ∧ s ∧ t ∧ u) (k : p → q → r → s → t → u → G) : G := by
 obtain ⟨h0, h1, h2, h3, h4, h5⟩ := H
 exact k h0 h1 h2 h3 h4 h5
theorem el_AEEAA {A B : Type} {p : Prop} {q r s : A → B → Prop} {G : Prop} (H : p ∧ ∃ a b, q a b ∧ r a b ∧ s a b) (k : p → ∀ a b, q a b → r a b → s a b → G) : G := by
 obtain ⟨h0, a, b, h1, h2, h3⟩ := H
 exact k h0 a b h1 h2 h3
theorem el_EAAAA {A : Type} {p q r s t : A → Prop} {G : Prop} (H : ∃ a, p a ∧ q a ∧ r a ∧ s a ∧ t a) (k : ∀ a, p a → q a → r a → s a → t a → G) : G := by
 obtain ⟨a, h0, h1, h2, h3, h4⟩ := H
 exact k a h0 h1 h2 h3 h4
theorem el_EEAAA {A B : Type} {p q r s : A → B → Prop} {G : Prop} (H : ∃ a b, p a b ∧ q a b ∧ r a b ∧ s a b) (k : ∀ a b, p a b → q a b → r a b → s a b → G) : G := by
 obtain ⟨a, b, h0, h1, h2, h3⟩ := H
 exact k a b h0 h1 h2 h3
theorem el_EEEAA {A B C : Type} {p q r : A → B → C → Prop} {G : Prop} (H : ∃ a b c, p a b c ∧ q a b c ∧ r a b c) (k : ∀ a b c, p a b c → q a b c → r a b c → G) : G := by
 obtain ⟨a, b, c, h0, h1, h2⟩ := H
 exact k a b c h0 h1 h2
theorem el_EEEEE {A B C D E : Type} {p : A → B → C → D → E → Prop} {G : Prop} (H : ∃ a b c d e, p a b c d e) (k : ∀ a b c d e, p a b c d e → G) : G := by
 obtain ⟨a, b, c, d, e, h0⟩ := H
 exact k a b c d e h0
theorem el_AAAAAA {p q r s t u v : Prop} {G : Prop} (H : p ∧ q ∧ r ∧ s ∧ t ∧ u ∧ v) (k : p → q → r → s → t → u → v → G) : G := by
 obtain ⟨h0, h1, h2, h3, h4, h5, h6⟩ := H
 exact k h0 h1 h2 h3 h4 h5 h6
theorem el_AEEAAA {A B : Type} {p : Prop} {q r s t : A → B → Prop} {G : Prop} (H : p ∧ ∃ a b, q a b ∧ r a b ∧ s a b ∧ t a b) (k : p → ∀ a b, q a b → r a b → s a b → t a b → G) : G := by
 obtain ⟨h0, a, b, h1, h2, h3, h4⟩ := H
 exact k h0 a b h1 h2 h3 h4
theorem el_EEAAAA {A B : Type} {p q r s t : A → B → Prop} {G : Prop} (H : ∃ a b, p a b ∧ q a b ∧ r a b ∧ s a b ∧ t a b) (k : ∀ a b, p a b → q a b → r a b → s a b → t a b → G) : G := by
 obtain ⟨a, b, h0, h1, h2, h3, h4⟩ := H
 exact k a b h0 h1 h2 h3 h4
theorem el_EEEAAA {A B C : Type} {p q r s : A → B → C → Prop} {G : Prop} (H : ∃ a b c, p a b c ∧ q a b c ∧ r a b c ∧ s a b c) (k : ∀ a b c, p a b c → q a b c → r a b c → s a b c → G) : G := by
 obtain ⟨a, b, c, h0, h1, h2, h3⟩ := H
 exact k a b c h0 h1 h2 h3
theorem el_EEEEAA {A B C D : Type} {p q r : A → B → C → D → Prop} {G : Prop} (H : ∃ a b c d, p a b c d ∧ q a b c d ∧ r a b c d) (k : ∀ a b c d, p a b c d → q a b c d → r a b c d → G) : G := by
 obtain ⟨a, b, c, d, h0, h1, h2⟩ := H
 exact k a b c d h0 h1 h2
theorem el_EEEEEA {A B C D E : Type} {p q : A → B → C → D → E → Prop} {G : Prop} (H : ∃ a b c d e, p a b c d e ∧ q a b c d e) (k : ∀ a b c d e, p a b c d e → q a b c d e → G) : G := by
 obtain ⟨a, b, c, d, e, h0, h1⟩ := H
 exact k a b c d e h0 h1
theorem el_EEEEEE {A B C D E F : Type} {p : A → B → C → D → E → F → Prop} {G : Prop} (H : ∃ a b c d e f, p a b c d e f) (k : ∀ a b c d e f, p a b c d e f → G) : G := by
 obtain ⟨a, b, c, d, e, f, h0⟩ := H
 exact k a b c d e f h0
theorem el_AAAAAAA {p q r s t u v w : Prop} {G : Prop} (H : p ∧ q ∧ r ∧ s ∧ t ∧ u ∧ v ∧ w) (k : p → q → r → s → t → u → v → w → G) : G := by
 obtain ⟨h0, h1, h2, h3, h4, h5, h6, h7⟩ := H
 exact k h0 h1 h2 h3 h4 h5 h6 h7
theorem el_EEAAAAA {A B : Type} {p q r s t u : A → B → Prop} {G : Prop} (H : ∃ a b, p a b ∧ q a b ∧ r a b ∧ s a b ∧ t a b ∧ u a b) (k : ∀ a b, p a b → q a b → r a b → s a b → t a b → u a b → G) : G := el_EE H fun a b h => el_AAAAA h (k a b)
theorem el_EEEAAAA {A B C : Type} {p q r s t : A → B → C → Prop} {G : Prop} (H : ∃ a b c, p a b c ∧ q a b c ∧ r a b c ∧ s a b c ∧ t a b c) (k : ∀ a b c, p a b c → q a b c → r a b c → s a b c → t a b c → G) : G := el_EEE H fun a b c h => el_AAAA h (k a b c)
theorem el_EEEEAAA {A B C D : Type} {p q r s : A → B → C → D → Prop} {G : Prop} (H : ∃ a b c d, p a b c d ∧ q a b c d ∧ r a b c d ∧ s a b c d) (k : ∀ a b c d, p a b c d → q a b c d → r a b c d → s a b c d → G) : G := el_EEEE H fun a b c d h => el_AAA h (k a b c d)
theorem el_EEEEEEE {A B C D E F I : Type} {p : A → B → C → D → E → F → I → Prop} {G : Prop} (H : ∃ a b c d e f i, p a b c d e f i) (k : ∀ a b c d e f i, p a b c d e f i → G) : G := by
 obtain ⟨a, b, c, d, e, f, i, h0⟩ := H
 exact k a b c d e f i h0
theorem el_AAAAAAAA {p q r s t u v w x : Prop} {G : Prop} (H : p ∧ q ∧ r ∧ s ∧ t ∧ u ∧ v ∧ w ∧ x) (k : p → q → r → s → t → u → v → w → x → G) : G := by
 obtain ⟨h0, h1, h2, h3, h4, h5, h6, h7, h8⟩ := H
 exact k h0 h1 h2 h3 h4 h5 h6 h7 h8
theorem el_EEEAAAAA {A B C : Type} {p q r s t u : A → B → C → Prop} {G : Prop} (H : ∃ a b c, p a b c ∧ q a b c ∧ r a b c ∧ s a b c ∧ t a b c ∧ u a b c) (k : ∀ a b c, p a b c → q a b c → r a b c → s a b c → t a b c → u a b c → G) : G := el_EEE H fun a b c h => el_AAAAA h (k a b c)
theorem el_EEEEEEAA {A B C D E F : Type} {p q r : A → B → C → D → E → F → Prop} {G : Prop} (H : ∃ a b c d e f, p a b c d e f ∧ q a b c d e f ∧ r a b c d e f) (k : ∀ a b c d e f, p a b c d e f → q a b c d e f → r a b c d e f → G) : G := el_EEEEEE H fun a b c d e f h => el_AA h (k a b c d e f)
theorem el_EEEEEEEE {A B C D E F I J : Type} {p : A → B → C → D → E → F → I → J → Prop} {G : Prop} (H : ∃ a b c d e f i j, p a b c d e f i j) (k : ∀ a b c d e f i j, p a b c d e f i j → G) : G := by
 obtain ⟨a, b, c, d, e, f, i, j, h0⟩ := H
 exact k a b c d e f i j h0
theorem el_AAAAAAAAA {p q r s t u v w x y : Prop} {G : Prop} (H : p ∧ q ∧ r ∧ s ∧ t ∧ u ∧ v ∧ w ∧ x ∧ y) (k : p → q → r → s → t → u → v → w → x → y → G) : G := by
 obtain ⟨h0, h1, h2, h3, h4, h5, h6, h7, h8, h9⟩ := H
 exact k h0 h1 h2 h3 h4 h5 h6 h7 h8 h9
theorem el_EEAAAAAAA {A B : Type} {p q r s t u v w : A → B → Prop} {G : Prop} (H : ∃ a b, p a b ∧ q a b ∧ r a b ∧ s a b ∧ t a b ∧ u a b ∧ v a b ∧ w a b) (k : ∀ a b, p a b → q a b → r a b → s a b → t a b → u a b → v a b → w a b → G) : G := el_EE H fun a b h => el_AAAAAAA h (k a b)
theorem el_EEEEAAAAA {A B C D : Type} {p q r s t u : A → B → C → D → Prop} {G : Prop} (H : ∃ a b c d, p a b c d ∧ q a b c d ∧ r a b c d ∧ s a b c d ∧ t a b c d ∧ u a b c d) (k : ∀ a b c d, p a b c d → q a b c d → r a b c d → s a b c d → t a b c d → u a b c d → G) : G := el_EEEE H fun a b c d h => el_AAAAA h (k a b c d)
theorem el_EEEEEEAAA {A B C D E F : Type} {p q r s : A → B → C → D → E → F → Prop} {G : Prop} (H : ∃ a b c d e f, p a b c d e f ∧ q a b c d e f ∧ r a b c d e f ∧ s a b c d e f) (k : ∀ a b c d e f, p a b c d e f → q a b c d e f → r a b c d e f → s a b c d e f → G) : G := el_EEEEEE H fun a b c d e f h => el_AAA h (k a b c d e f)
theorem el_EEEEEEEEE {A B C D E F I J L : Type} {p : A → B → C → D → E → F → I → J → L → Prop} {G : Prop} (H : ∃ a b c d e f i j l, p a b c d e f i j l) (k : ∀ a b c d e f i j l, p a b c d e f i j l → G) : G := by
 obtain ⟨a, b, c, d, e, f, i, j, l, h0⟩ := H
 exact k a b c d e f i j l h0
theorem el_AAAAAAAAAA {p q r s t u v w x y z : Prop} {G : Prop} (H : p ∧ q ∧ r ∧ s ∧ t ∧ u ∧ v ∧ w ∧ x ∧ y ∧ z) (k : p → q → r → s → t → u → v → w → x → y → z → G) : G := by
 obtain ⟨h0, h1, h2, h3, h4, h5, h6, h7, h8, h9, h10⟩ := H
 exact k h0 h1 h2 h3 h4 h5 h6 h7 h8 h9 h10
theorem el_EEEEEEEEAA {A B C D E F I J : Type} {p q r : A → B → C → D → E → F → I → J → Prop} {G : Prop} (H : ∃ a b c d e f i j, p a b c d e f i j ∧ q a b c d e f i j ∧ r a b c d e f i j) (k : ∀ a b c d e f i j, p a b c d e f i j → q a b c d e f i j → r a b c d e f i j → G) : G := el_EEEEEEEE H fun a b c d e f i j h => el_AA h (k a b c d e f i j)
theorem el_EEEEEEEEEE {A B C D E F I J L M : Type} {p : A → B → C → D → E → F → I → J → L → M → Prop} {G : Prop} (H : ∃ a b c d e f i j l m, p a b c d e f i j l m) (k : ∀ a b c d e f i j l m, p a b c d e f i j l m → G) : G := by
 obtain ⟨a, b, c, d, e, f, i, j, l, m, h0⟩ := H
 exact k a b c d e f i j l m h0
theorem el_AAAAAAAAAAA {p q r s t u v w x y z P : Prop} {G : Prop} (H : p ∧ q ∧ r ∧ s ∧ t ∧ u ∧ v ∧ w ∧ x ∧ y ∧ z ∧ P) (k : p → q → r → s → t → u → v → w → x → y → z → P → G) : G := by
 obtain ⟨h0, h1, h2, h3, h4, h5, h6, h7, h8, h9, h10, h11⟩ := H
 exact k h0 h1 h2 h3 h4 h5 h6 h7 h8 h9 h10 h11
theorem el_EEEAAAAAAAA {A B C : Type} {p q r s t u v w x : A → B → C → Prop} {G : Prop} (H : ∃ a b c, p a b c ∧ q a b c ∧ r a b c ∧ s a b c ∧ t a b c ∧ u a b c ∧ v a b c ∧ w a b c ∧ x a b c) (k : ∀ a b c, p a b c → q a b c → r a b c → s a b c → t a b c → u a b c → v a b c → w a b c → x a b c → G) : G := el_EEE H fun a b c h => el_AAAAAAAA h (k a b c)
theorem el_EEEAEEEEAAA {A B C D E F I : Type} {p : A → B → C → Prop} {q r s t : A → B → C → D → E → F → I → Prop} {G : Prop} (H : ∃ a b c, p a b c ∧ ∃ d e f i, q a b c d e f i ∧ r a b c d e f i ∧ s a b c d e f i ∧ t a b c d e f i) (k : ∀ a b c, p a b c → ∀ d e f i, q a b c d e f i → r a b c d e f i → s a b c d e f i → t a b c d e f i → G) : G := by
 obtain ⟨a, b, c, h0, d, e, f, i, h1, h2, h3, h4⟩ := H
 exact k a b c h0 d e f i h1 h2 h3 h4
theorem el_EEEEEEEEEEA {A B C D E F I J L M : Type} {p q : A → B → C → D → E → F → I → J → L → M → Prop} {G : Prop} (H : ∃ a b c d e f i j l m, p a b c d e f i j l m ∧ q a b c d e f i j l m) (k : ∀ a b c d e f i j l m, p a b c d e f i j l m → q a b c d e f i j l m → G) : G := el_EEEEEEEEEE H fun a b c d e f i j l m h => el_A h (k a b c d e f i j l m)
theorem el_EEEEEEEEEEE {A B C D E F I J L M N : Type} {p : A → B → C → D → E → F → I → J → L → M → N → Prop} {G : Prop} (H : ∃ a b c d e f i j l m n, p a b c d e f i j l m n) (k : ∀ a b c d e f i j l m n, p a b c d e f i j l m n → G) : G := by
 obtain ⟨a, b, c, d, e, f, i, j, l, m, n, h0⟩ := H
 exact k a b c d e f i j l m n h0
theorem el_EEEEEAAAAAAA {A B C D E : Type} {p q r s t u v w : A → B → C → D → E → Prop} {G : Prop} (H : ∃ a b c d e, p a b c d e ∧ q a b c d e ∧ r a b c d e ∧ s a b c d e ∧ t a b c d e ∧ u a b c d e ∧ v a b c d e ∧ w a b c d e) (k : ∀ a b c d e, p a b c d e → q a b c d e → r a b c d e → s a b c d e → t a b c d e → u a b c d e → v a b c d e → w a b c d e → G) : G := el_EEEEE H fun a b c d e h => el_AAAAAAA h (k a b c d e)
theorem el_EEEEEEEAAAAA {A B C D E F I : Type} {p q r s t u : A → B → C → D → E → F → I → Prop} {G : Prop} (H : ∃ a b c d e f i, p a b c d e f i ∧ q a b c d e f i ∧ r a b c d e f i ∧ s a b c d e f i ∧ t a b c d e f i ∧ u a b c d e f i) (k : ∀ a b c d e f i, p a b c d e f i → q a b c d e f i → r a b c d e f i → s a b c d e f i → t a b c d e f i → u a b c d e f i → G) : G := el_EEEEEEE H fun a b c d e f i h => el_AAAAA h (k a b c d e f i)
theorem el_EEEEEEEEAAAA {A B C D E F I J : Type} {p q r s t : A → B → C → D → E → F → I → J → Prop} {G : Prop} (H : ∃ a b c d e f i j, p a b c d e f i j ∧ q a b c d e f i j ∧ r a b c d e f i j ∧ s a b c d e f i j ∧ t a b c d e f i j) (k : ∀ a b c d e f i j, p a b c d e f i j → q a b c d e f i j → r a b c d e f i j → s a b c d e f i j → t a b c d e f i j → G) : G := el_EEEEEEEE H fun a b c d e f i j h => el_AAAA h (k a b c d e f i j)
theorem el_EEEEEEEEEAAA {A B C D E F I J L : Type} {p q r s : A → B → C → D → E → F → I → J → L → Prop} {G : Prop} (H : ∃ a b c d e f i j l, p a b c d e f i j l ∧ q a b c d e f i j l ∧ r a b c d e f i j l ∧ s a b c d e f i j l) (k : ∀ a b c d e f i j l, p a b c d e f i j l → q a b c d e f i j l → r a b c d e f i j l → s a b c d e f i j l → G) : G := el_EEEEEEEEE H fun a b c d e f i j l h => el_AAA h (k a b c d e f i j l)
theorem el_EEEEEEEEEEEA {A B C D E F I J L M N : Type} {p q : A → B → C → D → E → F → I → J → L → M → N → Prop} {G : Prop} (H : ∃ a b c d e f i j l m n, p a b c d e f i j l m n ∧ q a b c d e f i j l m n) (k : ∀ a b c d e f i j l m n, p a b c d e f i j l m n → q a b c d e f i j l m n → G) : G := el_EEEEEEEEEEE H fun a b c d e f i j l m n h => el_A h (k a b c d e f i j l m n)
theorem el_EEEEEAAAAAAAA {A B C D E : Type} {p q r s t u v w x : A → B → C → D → E → Prop} {G : Prop} (H : ∃ a b c d e, p a b c d e ∧ q a b c d e ∧ r a b c d e ∧ s a b c d e ∧ t a b c d e ∧ u a b c d e ∧ v a b c d e ∧ w a b c d e ∧ x a b c d e) (k : ∀ a b c d e, p a b c d e → q a b c d e → r a b c d e → s a b c d e → t a b c d e → u a b c d e → v a b c d e → w a b c d e → x a b c d e → G) : G := el_EEEEE H fun a b c d e h => el_AAAAAAAA h (k a b c d e)
theorem el_EEEEEAAAAAAAAA {A B C D E : Type} {p q r s t u v w x y : A → B → C → D → E → Prop} {G : Prop} (H : ∃ a b c d e, p a b c d e ∧ q a b c d e ∧ r a b c d e ∧ s a b c d e ∧ t a b c d e ∧ u a b c d e ∧ v a b c d e ∧ w a b c d e ∧ x a b c d e ∧ y a b c d e) (k : ∀ a b c d e, p a b c d e → q a b c d e → r a b c d e → s a b c d e → t a b c d e → u a b c d e → v a b c d e → w a b c d e → x a b c d e → y a b c d e → G) : G := el_EEEEE H fun a b c d e h => el_AAAAAAAAA h (k a b c d e)
theorem el_EEEEEEEEEAAAAA {A B C D E F I J L : Type} {p q r s t u : A → B → C → D → E → F → I → J → L → Prop} {G : Prop} (H : ∃ a b c d e f i j l, p a b c d e f i j l ∧ q a b c d e f i j l ∧ r a b c d e f i j l ∧ s a b c d e f i j l ∧ t a b c d e f i j l ∧ u a b c d e f i j l) (k : ∀ a b c d e f i j l, p a b c d e f i j l → q a b c d e f i j l → r a b c d e f i j l → s a b c d e f i j l → t a b c d e f i j l → u a b c d e f i j l → G) : G := el_EEEEEEEEE H fun a b c d e f i j l h => el_AAAAA h (k a b c d e f i j l)
theorem el_AEEEEEEEEAAAAAA {A B C D E F I J : Type} {p : Prop} {q r s t u v w : A → B → C → D → E → F → I → J → Prop} {G : Prop} (H : p ∧ ∃ a b c d e f i j, q a b c d e f i j ∧ r a b c d e f i j ∧ s a b c d e f i j ∧ t a b c d e f i j ∧ u a b c d e f i j ∧ v a b c d e f i j ∧ w a b c d e f i j) (k : p → ∀ a b c d e f i j, q a b c d e f i j → r a b c d e f i j → s a b c d e f i j → t a b c d e f i j → u a b c d e f i j → v a b c d e f i j → w a b c d e f i j → G) : G := by
 obtain ⟨h0, a, b, c, d, e, f, i, j, h1, h2, h3, h4, h5, h6, h7⟩ := H
 exact k h0 a b c d e f i j h1 h2 h3 h4 h5 h6 h7
theorem el_EEEEEEAAAAAAAAA {A B C D E F : Type} {p q r s t u v w x y : A → B → C → D → E → F → Prop} {G : Prop} (H : ∃ a b c d e f, p a b c d e f ∧ q a b c d e f ∧ r a b c d e f ∧ s a b c d e f ∧ t a b c d e f ∧ u a b c d e f ∧ v a b c d e f ∧ w a b c d e f ∧ x a b c d e f ∧ y a b c d e f) (k : ∀ a b c d e f, p a b c d e f → q a b c d e f → r a b c d e f → s a b c d e f → t a b c d e f → u a b c d e f → v a b c d e f → w a b c d e f → x a b c d e f → y a b c d e f → G) : G := el_EEEEEE H fun a b c d e f h => el_AAAAAAAAA h (k a b c d e f)
theorem el_AAAEEEEEAAAAAAAA {A B C D E : Type} {p q r : Prop} {s t u v w x y z P : A → B → C → D → E → Prop} {G : Prop} (H : p ∧ q ∧ r ∧ ∃ a b c d e, s a b c d e ∧ t a b c d e ∧ u a b c d e ∧ v a b c d e ∧ w a b c d e ∧ x a b c d e ∧ y a b c d e ∧ z a b c d e ∧ P a b c d e) (k : p → q → r → ∀ a b c d e, s a b c d e → t a b c d e → u a b c d e → v a b c d e → w a b c d e → x a b c d e → y a b c d e → z a b c d e → P a b c d e → G) : G := by
 obtain ⟨h0, h1, h2, a, b, c, d, e, h3, h4, h5, h6, h7, h8, h9, h10, h11⟩ := H
 exact k h0 h1 h2 a b c d e h3 h4 h5 h6 h7 h8 h9 h10 h11
theorem el_EEEEEAAAAAAAAAAA {A B C D E : Type} {p q r s t u v w x y z P : A → B → C → D → E → Prop} {G : Prop} (H : ∃ a b c d e, p a b c d e ∧ q a b c d e ∧ r a b c d e ∧ s a b c d e ∧ t a b c d e ∧ u a b c d e ∧ v a b c d e ∧ w a b c d e ∧ x a b c d e ∧ y a b c d e ∧ z a b c d e ∧ P a b c d e) (k : ∀ a b c d e, p a b c d e → q a b c d e → r a b c d e → s a b c d e → t a b c d e → u a b c d e → v a b c d e → w a b c d e → x a b c d e → y a b c d e → z a b c d e → P a b c d e → G) : G := el_EEEEE H fun a b c d e h => el_AAAAAAAAAAA h (k a b c d e)
theorem el_EEEEEEEEEEAAAAAA {A B C D E F I J L M : Type} {p q r s t u v : A → B → C → D → E → F → I → J → L → M → Prop} {G : Prop} (H : ∃ a b c d e f i j l m, p a b c d e f i j l m ∧ q a b c d e f i j l m ∧ r a b c d e f i j l m ∧ s a b c d e f i j l m ∧ t a b c d e f i j l m ∧ u a b c d e f i j l m ∧ v a b c d e f i j l m) (k : ∀ a b c d e f i j l m, p a b c d e f i j l m → q a b c d e f i j l m → r a b c d e f i j l m → s a b c d e f i j l m → t a b c d e f i j l m → u a b c d e f i j l m → v a b c d e f i j l m → G) : G := el_EEEEEEEEEE H fun a b c d e f i j l m h => el_AAAAAA h (k a b c d e f i j l m)
theorem el_EEEEEEAAAAAAAAAAA {A B C D E F : Type} {p q r s t u v w x y z P : A → B → C → D → E → F → Prop} {G : Prop} (H : ∃ a b c d e f, p a b c d e f ∧ q a b c d e f ∧ r a b c d e f ∧ s a b c d e f ∧ t a b c d e f ∧ u a b c d e f ∧ v a b c d e f ∧ w a b c d e f ∧ x a b c d e f ∧ y a b c d e f ∧ z a b c d e f ∧ P a b c d e f) (k : ∀ a b c d e f, p a b c d e f → q a b c d e f → r a b c d e f → s a b c d e f → t a b c d e f → u a b c d e f → v a b c d e f → w a b c d e f → x a b c d e f → y a b c d e f → z a b c d e f → P a b c d e f → G) : G := el_EEEEEE H fun a b c d e f h => el_AAAAAAAAAAA h (k a b c d e f)
theorem el_EEEEEEEEEAAAAAAAA {A B C D E F I J L : Type} {p q r s t u v w x : A → B → C → D → E → F → I → J → L → Prop} {G : Prop} (H : ∃ a b c d e f i j l, p a b c d e f i j l ∧ q a b c d e f i j l ∧ r a b c d e f i j l ∧ s a b c d e f i j l ∧ t a b c d e f i j l ∧ u a b c d e f i j l ∧ v a b c d e f i j l ∧ w a b c d e f i j l ∧ x a b c d e f i j l) (k : ∀ a b c d e f i j l, p a b c d e f i j l → q a b c d e f i j l → r a b c d e f i j l → s a b c d e f i j l → t a b c d e f i j l → u a b c d e f i j l → v a b c d e f i j l → w a b c d e f i j l → x a b c d e f i j l → G) : G := el_EEEEEEEEE H fun a b c d e f i j l h => el_AAAAAAAA h (k a b c d e f i j l)
theorem el_AAAAAAAAAAAAAAAAAAAA {p q r s t u v w x y z P Q R S U V W X Y Z : Prop} {G : Prop} (H : p ∧ q ∧ r ∧ s ∧ t ∧ u ∧ v ∧ w ∧ x ∧ y ∧ z ∧ P ∧ Q ∧ R ∧ S ∧ U ∧ V ∧ W ∧ X ∧ Y ∧ Z) (k : p → q → r → s → t → u → v → w → x → y → z → P → Q → R → S → U → V → W → X → Y → Z → G) : G := by
 obtain ⟨h0, h1, h2, h3, h4, h5, h6, h7, h8, h9, h10, h11, h12, h13, h14, h15, h16, h17, h18, h19, h20⟩ := H
 exact k h0 h1 h2 h3 h4 h5 h6 h7 h8 h9 h10 h11 h12 h13 h14 h15 h16 h17 h18 h19 h20
theorem el_EEEEEEEEEEAAAAAAAAAA {A B C D E F I J L M : Type} {p q r s t u v w x y z : A → B → C → D → E → F → I → J → L → M → Prop} {G : Prop} (H : ∃ a b c d e f i j l m, p a b c d e f i j l m ∧ q a b c d e f i j l m ∧ r a b c d e f i j l m ∧ s a b c d e f i j l m ∧ t a b c d e f i j l m ∧ u a b c d e f i j l m ∧ v a b c d e f i j l m ∧ w a b c d e f i j l m ∧ x a b c d e f i j l m ∧ y a b c d e f i j l m ∧ z a b c d e f i j l m) (k : ∀ a b c d e f i j l m, p a b c d e f i j l m → q a b c d e f i j l m → r a b c d e f i j l m → s a b c d e f i j l m → t a b c d e f i j l m → u a b c d e f i j l m → v a b c d e f i j l m → w a b c d e f i j l m → x a b c d e f i j l m → y a b c d e f i j l m → z a b c d e f i j l m → G) : G := el_EEEEEEEEEE H fun a b c d e f i j l m h => el_AAAAAAAAAA h (k a b c d e f i j l m)
noncomputable abbrev pw := PySem.Challenge.pw_oc0071_01
noncomputable abbrev stmtAt (k : Nat) : Stmt := pw.main.body.getD k (.Pass default)
noncomputable abbrev nmOf : Stmt → Str
 | .FunctionDef n .. => n
 | _ => Str.empty
noncomputable abbrev psOf : Stmt → Arguments
 | .FunctionDef _ a .. => a
 | _ => default
noncomputable abbrev bdOf : Stmt → List Stmt
 | .FunctionDef _ _ b .. => b
 | _ => []
noncomputable abbrev scOf : Stmt → Scope
 | .FunctionDef _ _ _ _ _ _ sc .. => sc
 | _ => default
noncomputable def KeepOn (ok : Addr → Prop) (h h' : Heap) : Prop := ∀ b o, ok b → h.get? b = some o → h'.get? b = some o
noncomputable abbrev All : Addr → Prop := fun _ => True
noncomputable def Keep (h h' : Heap) : Prop := ∀ b o, h.get? b = some o → h'.get? b = some o
theorem Keep.refl (h : Heap) : Keep h h := fun _ _ e => e
theorem Keep.trans {a b c : Heap} (x : Keep a b) (y : Keep b c) : Keep a c := fun p o e => y p o (x p o e)
theorem Keep.on {ok : Addr → Prop} {a b : Heap} (x : Keep a b) : KeepOn ok a b := fun p o _ e => x p o e
theorem Keep.push (h : Heap) (o : Obj) : Keep h (h.push o) := fun _ _ e => Heap.get?_push_of_some _ e
theorem KeepOn.refl (ok : Addr → Prop) (h : Heap) : KeepOn ok h h := fun _ _ _ e => e
theorem KeepOn.trans {ok : Addr → Prop} {a b c : Heap} (x : KeepOn ok a b) (y : KeepOn ok b c) : KeepOn ok a c := fun p o k e => y p o k (x p o k e)
theorem KeepOn.mono {ok ok' : Addr → Prop} {a b : Heap} (x : KeepOn ok a b) (hk : ∀ p, ok' p → ok p) : KeepOn ok' a b := fun p o k e => x p o (hk p k) e
theorem Keep.size_le {h h' : Heap} {n : Nat} (k : Keep h h') (hn : ∃ a o, h.get? a = some o ∧ n ≤ a) : n ≤ h'.objs.size := by
 refine el_EEA hn ?_; try clear hn; intro a o e hl
 exact Nat.le_trans hl (Nat.le_of_lt (Heap.lt_size (k a o e)))
structure Rel (α : Type) where
 r : (Addr → Prop) → Heap → Value → α → Prop
 up : ∀ {ok h h' v x}, KeepOn ok h h' → r ok h v x → r ok h' v x
 mono : ∀ {ok ok' h v x}, (∀ p, ok p → ok' p) → r ok h v x → r ok' h v x
 adr : ∀ {ok h v x a}, r ok h v x → v = .ref a → ok a ∧ ∃ o, h.get? a = some o
noncomputable def RS : Rel Str where
 r := fun _ _ v x => ∃ t, v = .str x t
 up := fun _ x => x
 mono := fun _ x => x
 adr := fun ⟨_, e⟩ q => by rw [e] at q; cases q
noncomputable def RI : Rel Int where
 r := fun _ _ v x => ∃ t, v = .int x t
 up := fun _ x => x
 mono := fun _ x => x
 adr := fun ⟨_, e⟩ q => by rw [e] at q; cases q
theorem Paired.imp {α β : Type} {F G : α → β → Prop} (hi : ∀ a b, F a b → G a b) {l : List α} {l' : List β} (h : Paired F l l') : Paired G l l' := by
 induction h with
 | nil => exact .nil
 | cons x _ ih => exact .cons (hi _ _ x) ih
noncomputable def RL {α : Type} (R : Rel α) : Rel (List α) where
 r := fun ok h v xs => ∃ a vs, v = .ref a ∧ ok a ∧ h.PlainList a (List.toArray vs) ∧ Paired (R.r ok h) vs xs
 up := fun k ⟨a, vs, e, ho, hl, hp⟩ => ⟨a, vs, e, ho, hl.at fun o q => k a o ho q, Paired.imp (fun _ _ => R.up k) hp⟩
 mono := fun hi ⟨a, vs, e, ho, hl, hp⟩ => ⟨a, vs, e, hi a ho, hl, Paired.imp (fun _ _ => R.mono hi) hp⟩
 adr := fun ⟨_, _, e, ho, ⟨_, hl⟩, _⟩ q => by rw [e] at q; cases q; exact ⟨ho, _, hl⟩
noncomputable def Apart (vs : List Value) : Prop := vs.Pairwise fun v w => ∀ x, v = .ref x → w ≠ .ref x
noncomputable def RLd {α : Type} (R : Rel α) : Rel (List α) where
 r := fun ok h v xs => ∃ a vs, v = .ref a ∧ ok a ∧ h.PlainList a (List.toArray vs) ∧ Paired (R.r ok h) vs xs ∧ Apart vs
 up := fun k ⟨a, vs, e, ho, hl, hp, ha⟩ => ⟨a, vs, e, ho, hl.at fun o q => k a o ho q, Paired.imp (fun _ _ => R.up k) hp, ha⟩
 mono := fun hi ⟨a, vs, e, ho, hl, hp, ha⟩ => ⟨a, vs, e, hi a ho, hl, Paired.imp (fun _ _ => R.mono hi) hp, ha⟩
 adr := fun ⟨_, _, e, ho, ⟨_, hl⟩, _⟩ q => by rw [e] at q; cases q; exact ⟨ho, _, hl⟩
theorem RLd.weak {α : Type} {R : Rel α} {ok : Addr → Prop} {h : Heap} {v : Value} {xs : List α} : (RLd R).r ok h v xs → (RL R).r ok h v xs := fun ⟨a, vs, e, ho, hl, hp, _⟩ => ⟨a, vs, e, ho, hl, hp⟩
theorem Paired.length {α β : Type} {F : α → β → Prop} {l : List α} {l' : List β} (h : Paired F l l') : l.length = l'.length := by
 induction h with
 | nil => rfl
 | cons _ _ ih => exact congrArg (· + 1) ih
theorem Paired.get {α β : Type} {F : α → β → Prop} {l : List α} {l' : List β} {i : Nat} {x : β} (h : Paired F l l') (e : l'[i]? = some x) : ∃ v, l[i]? = some v ∧ F v x := by
 induction h generalizing i with
 | nil => cases e
 | cons x _ ih =>
   cases i with
   | zero => cases e; exact ⟨_, rfl, x⟩
   | succ i => exact ih e
theorem Paired.flip {α β : Type} {F : α → β → Prop} {l : List α} {l' : List β} (h : Paired F l l') : Paired (fun b a => F a b) l' l := by
 induction h with
 | nil => exact .nil
 | cons x _ ih => exact .cons x ih
theorem Paired.get' {α β : Type} {F : α → β → Prop} {l : List α} {l' : List β} {i : Nat} {v : α} (h : Paired F l l') (e : l[i]? = some v) : ∃ x, l'[i]? = some x ∧ F v x := Paired.get (Paired.flip h) e
noncomputable def DefAt (h : Heap) (a : Addr) (st : Stmt) : Prop :=
 ∃ o pm cd doc, h.get? a = some o ∧ o.data = .func (docDef (nmOf st) (psOf st) (bdOf st) (scOf st) pm cd doc) ∧ h.CodeRec cd (nmOf st)
theorem DefAt.keeps {h h' : Heap} {a : Addr} {st : Stmt} (x : DefAt h a st) (k : Keep h h') : DefAt h' a st :=
 el_EEEEAA x fun o pm cd doc e hd hc => ⟨o, pm, cd, doc, k _ _ e, hd, hc.keeps k⟩
theorem DefAt.fn {h : Heap} {a : Addr} {st : Stmt} (x : DefAt h a st) : PySem.W.FnAt a h := by
 refine el_EEEEAA x ?_; try clear x; intro zz0 pm cd doc e hd _
 obtain ⟨oc, od, dt, sl⟩ := zz0
 cases hd; exact ⟨oc, od, _, sl, e⟩
structure Sm (s s' : Shared) : Prop where
 gens : s'.gens = s.gens
 drawn : s'.drawn = s.drawn
 os : s'.os = s.os
theorem Sm.refl (s : Shared) : Sm s s := ⟨rfl, rfl, rfl⟩
theorem Sm.trans {a b c : Shared} (x : Sm a b) (y : Sm b c) : Sm a c := ⟨y.gens.trans x.gens, y.drawn.trans x.drawn, y.os.trans x.os⟩
theorem Sm.eq {a b : Shared} (x : Sm a b) : b = { a with heap := b.heap, toks := b.toks } := by
 obtain ⟨h, g, d, t, o⟩ := b
 obtain ⟨x1, x2, x3⟩ := x
 simp only at x1 x2 x3
 subst x1; subst x2; subst x3; rfl
theorem Sm.of {s : Shared} (h : Heap) (t : Nat) : Sm s { s with heap := h, toks := t } := ⟨rfl, rfl, rfl⟩
structure Up (s s' : Shared) : Prop where
 st : Sm s s'
 keep : Keep s.heap s'.heap
 size : s.heap.objs.size ≤ s'.heap.objs.size
theorem Up.refl (s : Shared) : Up s s := ⟨.refl s, .refl _, Nat.le_refl _⟩
theorem Up.trans {a b c : Shared} (x : Up a b) (y : Up b c) : Up a c := ⟨x.st.trans y.st, x.keep.trans y.keep, Nat.le_trans x.size y.size⟩
theorem Up.toks {s : Shared} (t : Nat) : Up s { s with toks := t } := ⟨.of _ _, .refl _, Nat.le_refl _⟩
theorem Up.push {s : Shared} (o : Obj) (t : Nat) : Up s { s with heap := s.heap.push o, toks := t } := ⟨.of _ _, .push _ _, by rw [Heap.size_push]; exact Nat.le_succ _⟩
noncomputable def Ret (s : Shared) (P : Value → Heap → Prop) (r : Result) (s' : Shared) : Prop := ∃ v, r = .ok (.ret v) ∧ Up s s' ∧ P v s'.heap
noncomputable abbrev RetD {α : Type} (R : Rel α) (x : α) (s : Shared) : Result → Shared → Prop := Ret s fun v h' => R.r (fun a => s.heap.objs.size ≤ a) h' v x
structure Adr where
 reduce : Addr
 c3 : Addr
 unquote : Addr
 hencode : Addr
 unqm : Addr
 hdecode : Addr
 cmp3 : Addr
 orders : Addr
 word : Addr
 places : Addr
 sign : Addr
 written : Addr
 pair : Addr
 merged : Addr
 first : Addr
 compare : Addr
 ctk : Addr
structure Wd (P : Adr) (mg mb : Str → Option Value) (h : Heap) : Prop where
 g : h.Ns mainGlobals mg
 b : h.Ns builtinsNs mb
 bi : ∀ x : Str, x ≠ "__name__" → mb x = bootBuiltins x
 lim : h.NoLimit
 no : ∀ x ∈ (["range", "len", "ord", "chr", "int", "sorted", "iter", "bytes", "min", "str", "RuntimeError", "StopIteration", "next", "TypeError", "object"] : List String), mg (Str.ofString x) = none
 dc3 : DefAt h P.c3 (stmtAt 5)
 dunq : DefAt h P.unquote (stmtAt 18)
 dunqm : DefAt h P.unqm (stmtAt 23)
 dhdec : DefAt h P.hdecode (stmtAt 24)
 dcmp3 : DefAt h P.cmp3 (stmtAt 26)
 dorders : DefAt h P.orders (stmtAt 28)
 dword : DefAt h P.word (stmtAt 29)
 dplaces : DefAt h P.places (stmtAt 30)
 dsign : DefAt h P.sign (stmtAt 31)
 dwritten : DefAt h P.written (stmtAt 32)
 dpair : DefAt h P.pair (stmtAt 33)
 dmerged : DefAt h P.merged (stmtAt 34)
 dfirst : DefAt h P.first (stmtAt 35)
 dcompare : DefAt h P.compare (stmtAt 36)
 dctk : DefAt h P.ctk (stmtAt 2)
 gc3 : mg (Str.ofString "_c3_merge") = some (.ref P.c3)
 gunq : mg (Str.ofString "unquote") = some (.ref P.unquote)
 gunqm : mg (Str.ofString "_unquote_match") = some (.ref P.unqm)
 ghdec : mg (Str.ofString "header_decode") = some (.ref P.hdecode)
 gcmp3 : mg (Str.ofString "three_way_cmp") = some (.ref P.cmp3)
 gorders : mg (Str.ofString "_law_orders") = some (.ref P.orders)
 gword : mg (Str.ofString "_law_word") = some (.ref P.word)
 gplaces : mg (Str.ofString "_law_places") = some (.ref P.places)
 gsign : mg (Str.ofString "_law_sign") = some (.ref P.sign)
 gwritten : mg (Str.ofString "_law_written") = some (.ref P.written)
 gpair : mg (Str.ofString "_law_pair") = some (.ref P.pair)
 gmerged : mg (Str.ofString "_law_merged") = some (.ref P.merged)
 gfirst : mg (Str.ofString "_law_first") = some (.ref P.first)
 gcompare : mg (Str.ofString "_law_compare") = some (.ref P.compare)
 gctk : mg (Str.ofString "cmp_to_key") = some (.ref P.ctk)
 greduce : mg (Str.ofString "reduce") = some (.ref P.reduce)
 ghenc : mg (Str.ofString "header_encode") = some (.ref P.hencode)
theorem Wd.keeps {P : Adr} {mg mb : Str → Option Value} {h h' : Heap} (W : Wd P mg mb h) (k : Keep h h') : Wd P mg mb h' where
 g := W.g.keeps k
 b := W.b.keeps k
 bi := W.bi
 lim := W.lim.keeps k
 no := W.no
 dc3 := W.dc3.keeps k
 dunq := W.dunq.keeps k
 dunqm := W.dunqm.keeps k
 dhdec := W.dhdec.keeps k
 dcmp3 := W.dcmp3.keeps k
 dorders := W.dorders.keeps k
 dword := W.dword.keeps k
 dplaces := W.dplaces.keeps k
 dsign := W.dsign.keeps k
 dwritten := W.dwritten.keeps k
 dpair := W.dpair.keeps k
 dmerged := W.dmerged.keeps k
 dfirst := W.dfirst.keeps k
 dcompare := W.dcompare.keeps k
 dctk := W.dctk.keeps k
 gc3 := W.gc3
 gunq := W.gunq
 gunqm := W.gunqm
 ghdec := W.ghdec
 gcmp3 := W.gcmp3
 gorders := W.gorders
 gword := W.gword
 gplaces := W.gplaces
 gsign := W.gsign
 gwritten := W.gwritten
 gpair := W.gpair
 gmerged := W.gmerged
 gfirst := W.gfirst
 gcompare := W.gcompare
 gctk := W.gctk
 greduce := W.greduce
 ghenc := W.ghenc
noncomputable abbrev okF (b n : Nat) : Addr → Prop := fun a => a < b ∨ n ≤ a
structure Fz (h₀ : Heap) (env : Env) (n : Nat) (g h : Heap) (m : Str → Option Value) : Prop where
 base : Keep h₀ h
 lo : h₀.objs.size ≤ env.locals
 hi : env.locals < n
 top : n ≤ h.objs.size
 ns : ∃ ml, h.Ns env.locals ml ∧ ∀ x, env.kindOf x = some .local → ml x = m x
 cs : ∀ x a, env.cells.lookup x = some a → h.IsCell a (m x) ∧ env.locals < a ∧ a < n
 apart : ∀ x y a, env.cells.lookup x = some a → env.cells.lookup y = some a → x = y
 keep : KeepOn (okF h₀.objs.size n) g h
theorem Fz.sub' {h₀ : Heap} {env : Env} {n : Nat} {g h h' : Heap} {m : Str → Option Value} (F : Fz h₀ env n g h m) (k : Keep h h') (hs : h.objs.size ≤ h'.objs.size) : Fz h₀ env n h' h' m :=
 ⟨F.base.trans k, F.lo, F.hi, Nat.le_trans F.top hs, let ⟨ml, a, b⟩ := F.ns; ⟨ml, a.keeps k, b⟩, fun x a e => ⟨(F.cs x a e).1.keeps k, (F.cs x a e).2⟩, F.apart, KeepOn.refl _ _⟩
theorem Fz.lift {h₀ : Heap} {env : Env} {n : Nat} {g h h' : Heap} {m : Str → Option Value} (F : Fz h₀ env n g h m) (k : Keep h h') : KeepOn (okF h₀.objs.size n) g h' := F.keep.trans k.on
theorem Fz.here {h₀ : Heap} {env : Env} {n : Nat} {g h : Heap} {m : Str → Option Value} (F : Fz h₀ env n g h m) : Fz h₀ env n h h m := ⟨F.base, F.lo, F.hi, F.top, F.ns, F.cs, F.apart, KeepOn.refl _ _⟩
theorem Fz.pass' {h₀ : Heap} {env : Env} {n : Nat} {g h h' : Heap} {m : Str → Option Value} (F : Fz h₀ env n g h m) (k : Keep h h') (hs : h.objs.size ≤ h'.objs.size) : Fz h₀ env n g h' m :=
 let F' := F.sub' k hs; ⟨F'.base, F'.lo, F'.hi, F'.top, F'.ns, F'.cs, F'.apart, F.lift k⟩
theorem Fz.pass {h₀ : Heap} {env : Env} {n : Nat} {g : Heap} {s s' : Shared} {m : Str → Option Value} (F : Fz h₀ env n g s.heap m) (u : Up s s') : Fz h₀ env n g s'.heap m := F.pass' u.keep u.size
theorem Fz.sub {h₀ : Heap} {env : Env} {n : Nat} {g : Heap} {s s' : Shared} {m : Str → Option Value} (F : Fz h₀ env n g s.heap m) (u : Up s s') : Fz h₀ env n s'.heap s'.heap m := F.sub' u.keep u.size
theorem Wd.up {P : Adr} {mg mb : Str → Option Value} {s s' : Shared} (W : Wd P mg mb s.heap) (u : Up s s') : Wd P mg mb s'.heap := W.keeps u.keep
theorem Rel.at {α : Type} (R : Rel α) {ok : Addr → Prop} {s s' : Shared} {v : Value} {x : α} (p : R.r ok s.heap v x) (u : Up s s') : R.r ok s'.heap v x := R.up u.keep.on p
noncomputable def bindM : List (Str × Value) → (Str → Option Value) → Str → Option Value
 | [], m => m
 | (n, v) :: r, m => bindM r fun y => if y = n then some v else m y
theorem bindM_L {kindOf : Str → Option NameKind} {x : Str} (hx : kindOf x = some .local) : ∀ (bs : List (Str × Value)) (m m' : Str → Option Value), m x = m' x → bindL kindOf bs m x = bindM bs m' x
 | [], _, _, e => e
 | (n, v) :: r, m, m', e => by
   refine bindM_L hx r _ _ ?_
   by_cases h : x = n
   · subst h; simp [hx]
   · by_cases q : kindOf n = some .local <;> simp [q, h, e]
theorem bindM_C {kindOf : Str → Option NameKind} {x : Str} (hx : kindOf x ≠ some .local) : ∀ (bs : List (Str × Value)) (m m' : Str → Option Value), m x = m' x → bindC kindOf bs m x = bindM bs m' x
 | [], _, _, e => e
 | (n, v) :: r, m, m', e => by
   refine bindM_C hx r _ _ ?_
   by_cases h : x = n
   · subst h; simp [hx]
   · by_cases q : kindOf n = some .local <;> simp [q, h, e]
theorem lookup_kind : ∀ {names : List (Str × NameKind)} {n : Nat} {acc : List (Str × Addr)} {x : Str} {a : Addr}, (cellsFrom n names acc).lookup x = some a → acc.lookup x = some a ∨ (x, NameKind.cell) ∈ names
 | [], _, _, _, _, e => .inl e
 | (y, k) :: r, n, acc, x, a, e => by
   unfold cellsFrom at e
   by_cases hk : (k == .cell) = true
   · rw [if_pos hk] at e
     rcases lookup_kind e with q | q
     · rw [List.lookup_cons] at q
       by_cases hy : (x == y) = true
       · have : x = y := by simpa using hy
         have hk' : k = .cell := by simpa using hk
         subst this; subst hk'
         exact .inr (.head _)
       · simp only [hy] at q; exact .inl q
     · exact .inr (.tail _ q)
   · rw [if_neg hk] at e
     rcases lookup_kind e with q | q
     · exact .inl q
     · exact .inr (.tail _ q)
section
variable {prog : Program} {w : World} {A : Around} {s : Shared} {st : Stmt} {a : Addr} {args : List Value} {binds : List (Str × Value)} {P : Value → Heap → Prop} {R : Result → Shared → Prop}
theorem enterZ_any (hroom : A.depth < recursionLimit) (ho : DefAt s.heap a st) (hlim : s.heap.NoLimit)
   (hbind : ∀ pm cd doc, bindArgs (docDef (nmOf st) (psOf st) (bdOf st) (scOf st) pm cd doc) ⟨args, []⟩ = pure binds)
   (hkind : (binds.all fun y => (scOf st).names.lookup y.1 == some .local || (scOf st).names.lookup y.1 == some .cell) = true)
   (hone : ((scOf st).names.all fun p => !(p.2 == .cell) || !((scOf st).names.lookup p.1 == some .local)) = true)
   (h : ∀ L cd s₁ n, Fz s.heap (envOfC (nmOf st) (scOf st) L a cd) n s₁.heap s₁.heap (bindM binds fun _ => none) → Up s s₁ →
     wpAny (model prog w) (A.deeper (envOfC (nmOf st) (scOf st) L a cd)) (execs (bdOf st) (envOfC (nmOf st) (scOf st) L a cd))
       (fun f s' => R (.ok (.ret (match f with | .ret v => v | _ => .none))) s')
       (fun e s' => wpAny (model prog w) (A.deeper (envOfC (nmOf st) (scOf st) L a cd)) (leaving (envOfC (nmOf st) (scOf st) L a cd) e)
         (fun _ s'' => R (.error e) s'') (fun e' s'' => R (.error e') s'') s') s₁)
   (hco : (scOf st).isCoroutine = false) (hgen : (scOf st).isGenerator = false) (hk : (scOf st).kind = .function) :
   codeAny (model prog w) A (.call (.ref a) ⟨args, []⟩) R s := by
 refine el_EEEEAA ho ?_; try clear ho; intro o pm cd doc e hd hc
 refine call_cells hroom e hd hlim hc (hbind pm cd doc) (kindsX hkind _) (fun h₁ tk F X => ?_) hco hgen hk
 refine h _ cd { s with heap := h₁, toks := tk } h₁.objs.size ⟨F.keep, F.above, F.ns.lt, Nat.le_refl _, ⟨_, F.ns, fun x hx => bindM_L hx _ _ _ rfl⟩, fun x c hcx => ?_, fun x y c e1 e2 => ?_, KeepOn.refl _ _⟩ ⟨.of _ _, F.keep, Nat.le_of_lt F.ns.lt⟩
 · have hcell := X.cell x c hcx
   have hnl : (envOfC (nmOf st) (scOf st) s.heap.objs.size a cd).kindOf x ≠ some .local := by
     rcases lookup_kind hcx with q | q
     · cases q
     · intro e
       have h1 := List.all_eq_true.mp hone _ q
       have e' : (scOf st).names.lookup x = some .local := e
       rw [e'] at h1
       cases h1
   rw [← bindM_C hnl _ (fun _ => none) (fun _ => none) rfl]
   refine ⟨hcell, X.above x c (mem_of_lookup hcx), ?_⟩
   refine el_EA hcell ?_; try clear hcell; intro oc hoc _
   exact Heap.lt_size hoc
 · exact name_of_addr X.apart (mem_of_lookup e1) (mem_of_lookup e2)
theorem enterZ (hroom : A.depth < recursionLimit) (ho : DefAt s.heap a st) (hlim : s.heap.NoLimit)
   (hbind : ∀ pm cd doc, bindArgs (docDef (nmOf st) (psOf st) (bdOf st) (scOf st) pm cd doc) ⟨args, []⟩ = pure binds)
   (hkind : (binds.all fun y => (scOf st).names.lookup y.1 == some .local || (scOf st).names.lookup y.1 == some .cell) = true)
   (hone : ((scOf st).names.all fun p => !(p.2 == .cell) || !((scOf st).names.lookup p.1 == some .local)) = true)
   (h : ∀ L cd s₁ n, Fz s.heap (envOfC (nmOf st) (scOf st) L a cd) n s₁.heap s₁.heap (bindM binds fun _ => none) → Up s s₁ →
     wpAny (model prog w) (A.deeper (envOfC (nmOf st) (scOf st) L a cd)) (execs (bdOf st) (envOfC (nmOf st) (scOf st) L a cd))
       (fun f s' => Ret s P (.ok (.ret (match f with | .ret v => v | _ => .none))) s') (fun _ _ => False) s₁)
   (hco : (scOf st).isCoroutine = false) (hgen : (scOf st).isGenerator = false) (hk : (scOf st).kind = .function) :
   codeAny (model prog w) A (.call (.ref a) ⟨args, []⟩) (Ret s P) s :=
 enterZ_any hroom ho hlim hbind hkind hone (fun L cd s₁ n F K => wpAny_mono (h L cd s₁ n F K) (fun _ _ x => x) fun _ _ x => x.elim) hco hgen hk
theorem retD_ {α : Type} {R : Rel α} {x : α} {env : Env} {n : Nat} {g : Heap} {s' : Shared} {m : Str → Option Value} {v : Value}
   (F : Fz s.heap env n g s'.heap m) (u : Sm s s') (p : R.r (fun a => n ≤ a) s'.heap v x) : RetD R x s (.ok (.ret v)) s' :=
 ⟨v, rfl, ⟨u, F.base, Nat.le_trans F.lo (Nat.le_of_lt (Nat.lt_of_lt_of_le F.hi F.top))⟩, R.mono (fun _ q => Nat.le_trans F.lo (Nat.le_trans (Nat.le_of_lt F.hi) q)) p⟩
theorem ret_ {P : Value → Heap → Prop} {env : Env} {n : Nat} {g : Heap} {s' : Shared} {m : Str → Option Value} {v : Value}
   (F : Fz s.heap env n g s'.heap m) (u : Sm s s') (p : P v s'.heap) : Ret s P (.ok (.ret v)) s' :=
 ⟨v, rfl, ⟨u, F.base, Nat.le_trans F.lo (Nat.le_of_lt (Nat.lt_of_lt_of_le F.hi F.top))⟩, p⟩
end
section
variable {prog : Program} {w : World} {M : Model} {A : Around} {E : Value → Shared → Prop} {s : Shared} {Q : Value → Shared → Prop}
theorem call_ret {f : Value} {args : List Value} {P : Value → Heap → Prop} (hc : codeAny M A (.call f ⟨args, []⟩) (Ret s P) s)
   (h : ∀ v s', Up s s' → P v s'.heap → Q v s') : wpAny M A (call f args) Q E s :=
 wpAny_call (codeAny_mono hc fun r s' ⟨v, e, u, p⟩ => by subst e; exact h v s' u p)
theorem from_ {α : Type} {t : Sem α} {Q : α → Shared → Prop} {s₀ : Shared} (u : Up s₀ s) (h : ∀ s', Up s₀ s' → wpAny M A t Q E s') : wpAny M A t Q E s := h s u
theorem anew {α : Type} {t : Sem α} {Q : α → Shared → Prop} (h : ∀ s', s'.heap = s.heap → Up s s' → wpAny M A t Q E s') : wpAny M A t Q E s := h s rfl (Up.refl s)
variable {env : Env} {x : Str} {pos : Pos} {v : Value} {h₀ g : Heap} {n : Nat} {m mg mb : Str → Option Value} {P : Adr}
theorem n_loc (F : Fz h₀ env n g s.heap m) (hk : env.scope.kind = .function) (hl : env.kindOf x = some .local) (hd : (x == ("__debug__" : Str)) = false) (hv : m x = some v) (h : Q v s) :
   wpAny M A (eval (.Name x pos) env) Q E s := by
 refine el_EA (F.ns) ?_; intro ml hn hm
 exact wpAny_Name (wpAny_loadName_local hk hl hn ((hm x hl).trans hv) h) hd
theorem n_cell {c : Addr} (F : Fz h₀ env n g s.heap m) (hk : env.scope.kind = .function) (hl : env.kindOf x = some .cell) (hc : env.cells.lookup x = some c) (hd : (x == ("__debug__" : Str)) = false) (hv : m x = some v) (h : Q v s) :
 wpAny M A (eval (.Name x pos) env) Q E s := wpAny_Name (wpAny_loadName_cell hk hl hc (hv ▸ (F.cs x c hc).1) h) hd
theorem n_glob (hg : s.heap.Ns env.globals mg) (hk : env.scope.kind = .function) (hl : env.kindOf x = some .globalImplicit) (hd : (x == ("__debug__" : Str)) = false) (hv : mg x = some v) (h : Q v s) :
 wpAny M A (eval (.Name x pos) env) Q E s := Name_function_global hk hl (loadGlobal_global hg hv h) hd
theorem n_bi (W : Wd P mg mb s.heap) (hg : env.globals = mainGlobals) (hb : env.builtins = builtinsNs) (hk : env.scope.kind = .function) (hl : env.kindOf x = some .globalImplicit) (hd : (x == ("__debug__" : Str)) = false) (hn : x ≠ "__name__")
 (hm : mg x = none) (hv : bootBuiltins x = some v) (h : Q v s) :
 wpAny M A (eval (.Name x pos) env) Q E s := Name_function_global hk hl (loadGlobal_builtin (hg ▸ W.g) hm (hb ▸ W.b) ((W.bi x hn).trans hv) h) hd
theorem st_loc {Q : Unit → Shared → Prop} (F : Fz h₀ env n g s.heap m) (hk : env.scope.kind = .function) (hl : env.kindOf x = some .local) (hcx : env.cells.lookup x = none)
   (h : ∀ s', Fz h₀ env n g s'.heap (fun y => if y = x then some v else m y) → s'.heap.objs.size = s.heap.objs.size → Sm s s' → Q () s') : wpAny M A (storeName env x v) Q E s := by
 refine el_EA (F.ns) ?_; intro ml hn hm
 refine wpAny_storeName_local hl hn (fun h' hn' hs => h _ ?_ hs.1 ⟨rfl, rfl, rfl⟩) (by rw [hk]; rfl)
 have hL : ∀ b, okF h₀.objs.size n b → b ≠ env.locals := fun b hb q => by
   rcases hb with hb | hb
   · exact Nat.lt_irrefl _ (Nat.lt_of_lt_of_le (q ▸ hb) F.lo)
   · exact Nat.lt_irrefl _ (Nat.lt_of_lt_of_le F.hi (q ▸ hb))
 refine ⟨fun b o e => (hs.2 b (hL b (.inl (Heap.lt_size e)))).trans (F.base b o e), F.lo, F.hi, hs.1 ▸ F.top, ⟨_, hn', fun y hy => ?_⟩, fun y c hc => ?_, F.apart, fun b o hb e => (hs.2 b (hL b hb)).trans (F.keep b o hb e)⟩
 · by_cases q : y = x
   · simp [q]
   · simp [q, hm y hy]
 · refine el_AA (F.cs y c hc) ?_; intro h1 h2 h3
   have q : y ≠ x := fun q => by rw [q, hcx] at hc; cases hc
   have : (if y = x then some v else m y) = m y := if_neg q
   rw [this]
   exact ⟨h1.sameBut hs (Nat.ne_of_gt h2), h2, h3⟩
theorem st_cell {Q : Unit → Shared → Prop} {c : Addr} (F : Fz h₀ env n g s.heap m) (hk : env.scope.kind = .function) (hl : env.kindOf x = some .cell) (hc : env.cells.lookup x = some c)
   (h : ∀ s', Fz h₀ env n g s'.heap (fun y => if y = x then some v else m y) → s'.heap.objs.size = s.heap.objs.size → Sm s s' → Q () s') : wpAny M A (storeName env x v) Q E s := by
 refine el_AA (F.cs x c hc) ?_; intro hcell hlt hhi
 refine wpAny_storeName_cell hk hl hc hcell fun h' hv' hs => h _ ?_ hs.1 ⟨rfl, rfl, rfl⟩
 have hL : ∀ b, okF h₀.objs.size n b → b ≠ c := fun b hb q => by
   rcases hb with hb | hb
   · exact Nat.lt_irrefl _ (Nat.lt_trans (Nat.lt_of_lt_of_le (q ▸ hb) F.lo) hlt)
   · exact Nat.lt_irrefl _ (Nat.lt_of_lt_of_le hhi (q ▸ hb))
 refine el_EA (F.ns) ?_; intro ml hn hm
 refine ⟨fun b o e => (hs.2 b (hL b (.inl (Heap.lt_size e)))).trans (F.base b o e), F.lo, F.hi, hs.1 ▸ F.top, ⟨ml, hn.sameBut hs (Nat.ne_of_lt hlt), fun y hy => ?_⟩, fun y c' hc' => ?_, F.apart, fun b o hb e => (hs.2 b (hL b hb)).trans (F.keep b o hb e)⟩
 · have q : y ≠ x := fun q => by rw [q, hl] at hy; cases hy
   simp [q, hm y hy]
 · refine el_AA (F.cs y c' hc') ?_; intro h1 h2 h3
   by_cases q : y = x
   · subst q
     rw [hc] at hc'; cases hc'
     exact ⟨by simpa using hv', h2, h3⟩
   · have : (if y = x then some v else m y) = m y := if_neg q
     rw [this]
     exact ⟨h1.sameBut hs fun e => q (F.apart y x c' hc' (e ▸ hc)), h2, h3⟩
end
noncomputable abbrev KeepNot (wr : List Addr) (h h' : Heap) : Prop := ∀ b o, b ∉ wr → h.get? b = some o → h'.get? b = some o
section
variable {prog : Program} {w : World} {A : Around} {E : Value → Shared → Prop} {env : Env} {β : Type}
structure Turns (prog : Program) (w : World) (A : Around) (env : Env) (elt : Expr) (x : Str) (scope : Scope) (cl : List (Str × Addr)) (R' : Rel β) (ys : List β) (wr : List Addr) (n : Nat) (P : Nat → Value → Prop) (s₂ : Shared) : Prop where
 len : ys.length = n
 turn : ∀ i v b C s₃ m₃ (E' : Value → Shared → Prop), ys[i]? = some b → P i v → s₂.heap.objs.size ≤ C → KeepNot wr s₂.heap s₃.heap → s₂.heap.objs.size ≤ s₃.heap.objs.size → Sm s₂ s₃ → s₃.heap.Ns C m₃ → m₃ x = some v →
   wpAny (model prog w) A (eval elt (compEnvC scope cl C env)) (fun y s₄ => (Sm s₃ s₄ ∧ Keep s₃.heap s₄.heap) ∧ R'.r (fun a => s₃.heap.objs.size ≤ a) s₄.heap y b) E' s₃
theorem comp_block {elt iter : Expr} {x : Str} {px : Pos} {scope : Scope} {cl : List (Str × Addr)} {pos : Pos} {s₂ : Shared} {I : Addr} {fp wr : List Addr} {n : Nat} {P : Nat → Value → Prop} {R' : Rel β} {ys : List β}
   {St : Nat → Heap → Prop} (W : Walks prog w A I fp wr n P St) (hsz : n ≤ sizeLine) {RR : Value → Addr → Result → Shared → Prop}
   (hcell : ∀ y ∈ scope.names, y.2 ≠ .cell) (hkind : scope.kind = .function) (hx : scope.names.lookup x = some .local) (hst : St 0 s₂.heap) (hfp : ∀ b ∈ fp, b < s₂.heap.objs.size)
   (hq : Turns prog w A env elt x scope cl R' ys wr n P s₂)
   (hRR : ∀ D C h' tk m', s₂.heap.get? C = none → C ≠ D → s₂.heap.objs.size ≤ D → D < C → C < h'.objs.size → h'.Ns C m' → (∃ vs, h'.PlainList D (List.toArray vs) ∧ Apart vs ∧ ∀ h'', KeepOn (fun a => a ≠ C) h' h'' → Paired (R'.r (fun a => s₂.heap.objs.size ≤ a) h'') vs ys) →
     KeepNot wr s₂.heap h' → RR (.ref D) C (.ok .next) { s₂ with heap := h', toks := tk }) :
   wpAny (model prog w) A (newList []) (fun acc s₃ => wpAny (model prog w) A (newFunctionEnv scope env.globals cl [] env.qual none .none (some env)) (fun cenv s₄ =>
     codeAny (model prog w) A (.compStart (.ListComp elt [⟨.Name x px, iter, [], 0⟩] scope pos) 0 (.ref I) acc { cenv with scope := relabel scope env }) (RR acc cenv.locals) s₄) E s₃) E s₂ := by
 refine wpAny_newObj_type (wpAny_newFunctionEnv hcell (by intro y hy; simp at hy) (fun h₁ hns₁ hsb₁ => ?_) hkind)
 dsimp only at hns₁ hsb₁ ⊢
 generalize hH2 : s₂.heap.push { cls := .type "list", dict := none, data := .seq ([] : List Value).toArray } = H2 at hns₁ hsb₁ ⊢
 have hC : H2.objs.size = s₂.heap.objs.size + 1 := by rw [← hH2, Heap.size_push]
 have hDC : s₂.heap.objs.size ≠ H2.objs.size := by rw [hC]; exact Nat.ne_of_lt (Nat.lt_succ_self _)
 have below : ∀ b, b < s₂.heap.objs.size → b ≠ H2.objs.size ∧ b ≠ s₂.heap.objs.size := fun b hb => ⟨by rw [hC]; exact Nat.ne_of_lt (Nat.lt_succ_of_lt hb), Nat.ne_of_lt hb⟩
 have hDf : s₂.heap.objs.size ∉ fp := fun hm => Nat.lt_irrefl _ (hfp _ hm)
 have hCf : H2.objs.size ∉ fp := fun hm => by have := hfp _ hm; rw [hC] at this; exact Nat.lt_irrefl _ (Nat.lt_of_succ_lt this)
 have hCw : H2.objs.size ∉ wr := fun h => hCf (W.sub _ h)
 have hDw : s₂.heap.objs.size ∉ wr := fun h => hDf (W.sub _ h)
 have old : ∀ b o, s₂.heap.get? b = some o → h₁.get? b = some o := fun b o e => hsb₁.extBut b o (below b (Heap.lt_size e)).1 (Heap.get?_push_of_some _ (hH2 ▸ Heap.get?_push_of_some _ e))
 have hacc : h₁.PlainList s₂.heap.objs.size #[] := ⟨_, hsb₁.extBut _ _ hDC (Heap.get?_push_of_some _ (hH2 ▸ Heap.get?_push_size _ rfl))⟩
 have hst₁ : St 0 h₁ := W.frame _ _ _ hst fun b _ o e => old b o e
 have hs₁ : h₁.objs.size = H2.objs.size + 1 := by rw [hsb₁.1, Heap.size_push]
 have loop : ∀ s₃ : Shared, s₃ = { s₂ with heap := h₁, toks := s₂.toks + ([] : List (Str × Value)).length } →
     codeAny (model prog w) A (.compLoop (.ListComp elt [⟨.Name x px, iter, [], 0⟩] scope pos) 0 (.ref I) (.ref s₂.heap.objs.size) (compEnvC scope cl H2.objs.size env))
       (RR (.ref s₂.heap.objs.size) H2.objs.size) s₃ := by
   rintro s₃ rfl
   refine codeAny_compLoop_tests
     (fun k s' => ∃ h' tk m' i, ∃ vs : List Value, s' = { s₂ with heap := h', toks := tk } ∧ St i h' ∧ h'.PlainList s₂.heap.objs.size (List.toArray vs) ∧ h'.Ns H2.objs.size m' ∧ i ≤ n ∧ k = n + 1 - i ∧ (vs.length = i ∧ Apart vs) ∧
       H2.objs.size < h'.objs.size ∧ (∀ h'', KeepOn (fun a => H2.objs.size < a) h' h'' → Paired (R'.r (fun a => H2.objs.size < a) h'') vs (ys.take i)) ∧ KeepNot wr s₂.heap h') ?_ (n + 1)
     ⟨h₁, _, _, 0, [], rfl, hst₁, hacc, hns₁, Nat.zero_le _, rfl, ⟨rfl, .nil⟩, by rw [hs₁]; exact Nat.lt_succ_self _, fun _ _ => by simpa using Paired.nil, fun b o _ e => old b o e⟩
   intro k s' zzM3_47_2
   refine el_EEEEEAAAAAAAAA zzM3_47_2 ?_; clear zzM3_47_2; intro H tk m' i vs zz0 hst' hacc' hn' hi zz1 zz2 hCs hF hk
   obtain rfl := zz0
   obtain rfl := zz1
   refine el_A zz2 ?_; clear zz2; intro hlen hap
   by_cases hlt : i < n
   · refine W.item i _ _ _ hlt hst' fun v h₂ tk₂ hPv hst₂ hk₂ => ?_
     refine wpAny_assign_Name (wpAny_storeName_local (lookup_relabel_local hx) (hn'.at' fun o e => hk₂ _ o hCw e) (fun h₃ hn₃ hs₃ => ?_) (by simp [compEnvC, relabel, hkind]))
     refine wpAny_tests_nil ?_
     simp only [if_true]
     have up₃ : ∀ b o, b ≠ H2.objs.size → b ∉ wr → H.get? b = some o → h₃.get? b = some o := fun b o hbC hbf e => hs₃.extBut b o hbC (hk₂ b o hbf e)
     have hst₃ : St (i + 1) h₃ := W.frame _ _ _ hst₂ fun b hb o e => hs₃.extBut b o (fun h => hCf (by have h' : b = H2.objs.size := h; rw [← h']; exact hb)) e
     have hk₃ : KeepNot wr s₂.heap h₃ := fun b o hb e => up₃ b o (below b (Heap.lt_size e)).1 hb (hk b o hb e)
     have hC₃ : H2.objs.size < h₃.objs.size := hn₃.lt
     have h2₃ : s₂.heap.objs.size ≤ h₃.objs.size := by rw [hC] at hC₃; lia
     have hacc₃ : h₃.PlainList s₂.heap.objs.size (List.toArray vs) := hacc'.at fun o e => up₃ _ o hDC hDw e
     refine el_E (show ∃ b, ys[i]? = some b from ⟨ys[i]'(by rw [hq.len]; exact hlt), List.getElem?_eq_getElem _⟩) ?_; intro b hb
     refine wpAny_mono (hq.turn i v b H2.objs.size _ _ _ hb hPv (by rw [hC]; exact Nat.le_succ _) hk₃ h2₃ (.of h₃ _) hn₃ (by simp)) (fun y s₄ h₄ => ?_) fun _ _ e => e
     refine el_A h₄ ?_; try clear h₄; intro zz3 hR
     refine el_A zz3 ?_; clear zz3; intro st₄ k₄
     have es := st₄.eq
     revert hR k₄
     rw [es]
     generalize s₄.heap = h₄
     generalize s₄.toks = tk₄
     intro hR k₄
     refine append_at (hsz := by show (List.toArray vs).size ≤ sizeLine; rw [List.size_toArray, hlen]; exact Nat.le_trans hi hsz) (k₄ _ _ hacc₃.choose_spec) fun h₅ hs₅ hD₅ => ?_
     have hwr : ∀ b, b ∈ wr → b < s₂.heap.objs.size := fun b hb => hfp b (W.sub b hb)
     have hap' : Apart (vs ++ [y]) := by
       refine List.pairwise_append.mpr ⟨hap, List.pairwise_singleton _ _, fun v hv w hw x e q => ?_⟩
       rw [List.mem_singleton.mp hw] at q
       obtain ⟨j, hj, zz4⟩ := List.getElem_of_mem hv
       obtain rfl := zz4
       refine el_EA (Paired.get' (hF H (KeepOn.refl _ _)) (List.getElem?_eq_getElem hj)) ?_; intro z _ hz
       refine el_AE (R'.adr hz e) ?_; intro hCx o ho
       refine el_A (R'.adr hR q) ?_; intro hx _
       have hxlt : x < h₃.objs.size := Heap.lt_size (up₃ x o (Nat.ne_of_gt hCx) (fun q => by have := ltN (hwr x q); have := ltN hCx; rw [hC] at this; lia) ho)
       exact Nat.lt_irrefl _ (Nat.lt_of_lt_of_le hxlt hx)
     refine ⟨n + 1 - (i + 1), by lia, h₅, tk₄, _, i + 1, vs ++ [y], rfl, W.frame _ _ _ hst₃ fun b hb o e => hs₅.extBut b o (fun q => hDf (q ▸ hb)) (k₄ b o e), ⟨_, by rw [List.push_toArray] at hD₅; exact hD₅⟩,
       (hn₃.keeps k₄).sameBut hs₅ (Ne.symm hDC), hlt, rfl, ⟨by rw [List.length_append, List.length_singleton, hlen], hap'⟩, by rw [hs₅.1]; exact (hn₃.keeps k₄).lt, fun h'' kk => ?_, fun b o hb e => hs₅.extBut b o (below b (Heap.lt_size e)).2 (k₄ b o (hk₃ b o hb e))⟩
     have e1 : ys.take (i + 1) = ys.take i ++ [b] := by rw [List.take_add_one, hb]; rfl
     rw [e1]
     have big : ∀ a : Nat, H2.objs.size < a → a ≠ s₂.heap.objs.size ∧ a ∉ wr ∧ a ≠ H2.objs.size := fun a ha => ⟨fun q => by rw [hC] at ha; lia, fun q => by have := ltN (hwr a q); rw [hC] at ha; lia, fun q => by lia⟩
     refine Paired.snoc (hF h'' fun a o ha e => kk a o ha (hs₅.extBut a o (big a ha).1 (k₄ a o (up₃ a o (big a ha).2.2 (big a ha).2.1 e)))) ?_
     refine R'.mono (fun a (ha : h₃.objs.size ≤ a) => Nat.lt_of_lt_of_le hC₃ ha) (R'.up (fun a o ha e => ?_) hR)
     have ha' : H2.objs.size < a := Nat.lt_of_lt_of_le hC₃ ha
     exact kk a o ha' (hs₅.extBut a o (big a ha').1 e)
   · obtain rfl : i = n := Nat.le_antisymm hi (Nat.not_lt.mp hlt)
     refine W.done _ _ _ hst' fun h₂ tk₂ hk₂ => ?_
     have hwr : ∀ b, b ∈ wr → b < s₂.heap.objs.size := fun b hb => hfp b (W.sub b hb)
     have hn₂ := hn'.at' fun o e => hk₂ _ o hCw e
     refine hRR _ _ h₂ tk₂ m' (Heap.get?_none_of_le (by rw [hC]; exact Nat.le_succ _)) (Ne.symm hDC) (Nat.le_refl _) (by rw [hC]; exact Nat.lt_succ_self _) hn₂.lt hn₂ ⟨vs, hacc'.at fun o e => hk₂ _ o hDw e, hap, fun h'' kk => ?_⟩ fun b o hb e => hk₂ b o hb (hk b o hb e)
     have e1 : ys.take i = ys := List.take_of_length_le (by rw [hq.len]; exact Nat.le_refl _)
     have := hF h'' fun a o ha e => kk a o (fun q => Nat.lt_irrefl _ (q ▸ ha)) (hk₂ a o (fun q => by have h1 := ltN (hwr a q); have h2 := ltN ha; rw [hC] at h2; lia) e)
     rw [e1] at this
     exact Paired.imp (fun _ _ => R'.mono fun a ha => by have h2 := ltN ha; rw [hC] at h2; show s₂.heap.objs.size ≤ a; exact Nat.le_of_lt (Nat.lt_of_succ_lt h2)) this
 exact codeAny_compStart_list (loop _ rfl) (W.self 0 _ _ _ hst₁ (loop _ rfl))
noncomputable def CompGoal (prog : Program) (w : World) (A : Around) (env : Env) (elt : Expr) (x : Str) (scope : Scope) (cl : List (Str × Addr)) (β : Type) (Q : Value → Shared → Prop) (s₀ : Shared) (it : Value) (s₂ : Shared) : Prop :=
 Up s₀ s₂ ∧ ∃ I fp wr n P St, ∃ (R' : Rel β) (ys : List β), it = .ref I ∧ Walks prog w A I fp wr n P St ∧ n ≤ sizeLine ∧ St 0 s₂.heap ∧ (∀ b ∈ fp, b < s₂.heap.objs.size) ∧
     Turns prog w A env elt x scope cl R' ys wr n P s₂ ∧
     (∀ v s', Sm s₂ s' → KeepNot wr s₂.heap s'.heap → s₂.heap.objs.size ≤ s'.heap.objs.size → (RLd R').r (fun a => s₂.heap.objs.size ≤ a) s'.heap v ys → Q v s')
theorem ListComp_M {s : Shared} {elt iter : Expr} {x : Str} {px : Pos} {scope : Scope} {cl : List (Str × Addr)} {pos : Pos} {Q : Value → Shared → Prop}
   (hclos : closureFor scope env = pure cl) (hcell : ∀ y ∈ scope.names, y.2 ≠ .cell) (hkind : scope.kind = .function)
   (hnames : ∀ y ∈ scope.names, y.2 = .local → scope.names.lookup y.1 = some .local) (hx : scope.names.lookup x = some .local) (hs : ∀ x, foldedSetIterable iter env x = pure x)
   (h : wpAny (model prog w) A (eval iter env) (fun xv s₁ => wpAny (model prog w) A (pyIter xv) (CompGoal prog w A env elt x scope cl β Q s₁) E s₁) E s) :
   wpAny (model prog w) A (eval (.ListComp elt [⟨.Name x px, iter, [], 0⟩] scope pos) env) Q E s := by
 rw [eval_ListComp]
 refine wpAny_comprehension_free (use := none) rfl hs hclos hkind hnames (wpAny_mono h (fun xv s₁ h₁ => wpAny_mono h₁ (fun it s₂ h₂ => ?_) fun _ _ e => e) fun _ _ e => e)
 refine el_AEEEEEEEEAAAAAA h₂ ?_; try clear h₂; intro _ I fp wr n P St R' ys zz5 W hsz hst hfp hq hQ
 obtain rfl := zz5
 refine comp_block (RR := fun acc C => compPost (model prog w) A E none Q acc C) W hsz hcell hkind hx hst hfp hq ?_
 intro D C h' tk m' hC hCD hD hDC hCs hn ⟨vs, hl, hap, hp⟩ hk
 refine ⟨m', hn, fun h'' hs'' => hQ (.ref D) _ (.of h'' tk) (fun b o hb e => hs''.extBut b o (by rintro rfl; rw [hC] at e; cases e) (hk b o hb e)) (by rw [hs''.1]; exact Nat.le_trans hD (Nat.le_of_lt (Nat.lt_trans hDC hCs))) ⟨D, vs, rfl, hD, hl.at fun o e => hs''.extBut D o hCD.symm e, hp h'' (fun a o ha e => hs''.extBut a o ha e), hap⟩⟩
theorem comp_list {α : Type} {R : Rel α} {R' : Rel β} {f : α → β} {xs : List α} {s₁ : Shared} {xv : Value} {elt : Expr} {x : Str} {scope : Scope} {cl : List (Str × Addr)} {Q : Value → Shared → Prop}
   (hh : A.handled = none) (hl : (RL R).r All s₁.heap xv xs) (hsz : xs.length ≤ sizeLine)
   (turn : ∀ (i : Nat) v a C s₃ m₃ (E' : Value → Shared → Prop), (xs : List α)[i]? = some a → R.r All s₃.heap v a → Up s₁ s₃ → s₁.heap.objs.size ≤ C → s₃.heap.Ns C m₃ → m₃ x = some v →
     wpAny (model prog w) A (eval elt (compEnvC scope cl C env)) (fun y s₄ => Up s₃ s₄ ∧ R'.r (fun a => s₃.heap.objs.size ≤ a) s₄.heap y (f a)) E' s₃)
   (fin : ∀ v s', Up s₁ s' → (RL R').r (fun a => s₁.heap.objs.size ≤ a) s'.heap v (xs.map f) → Q v s') :
   wpAny (model prog w) A (pyIter xv) (CompGoal prog w A env elt x scope cl β Q s₁) E s₁ := by
 refine el_EEAAA hl ?_; try clear hl; intro ax vs zz6 _ hpl hp
 obtain rfl := zz6
 have hl := hpl.isList
 refine wpAny_pyIter_list hl ?_
 have hlt : ax < s₁.heap.objs.size := by obtain ⟨_, e, _⟩ := hl; exact Heap.lt_size e
 have hv : vs.length = xs.length := Paired.length hp
 have hup : ∀ {h : Heap}, KeepNot [s₁.heap.objs.size] (s₁.heap.push { cls := .type "list_iterator", data := .fields #[.ref ax, .int 0 0] }) h → Keep s₁.heap h := fun k b o e => k b o (by simpa using Nat.ne_of_lt (Heap.lt_size e)) (Heap.get?_push_of_some _ e)
 refine ⟨Up.push _ _, s₁.heap.objs.size, [s₁.heap.objs.size, ax], [s₁.heap.objs.size], (List.toArray vs).size, _, _, R', xs.map f, rfl, Walks.list hh _ ax (Nat.ne_of_lt hlt) (List.toArray vs), by rw [List.size_toArray, hv]; exact hsz,
   ⟨⟨_, Heap.get?_push_size _ rfl, rfl, rfl⟩, hl.push _⟩, fun b hb => ?_, ⟨by rw [List.size_toArray, List.length_map, hv], fun i v b C s₃ m₃ E' hb hP hC hk hs st hn hm => ?_⟩, fun v s' st hk hs hr => fin v s' ⟨⟨st.gens, st.drawn, st.os⟩, hup hk, by rw [Heap.size_push] at hs; lia⟩ ((RL R').mono (fun a ha => by rw [Heap.size_push] at ha; lia) (RLd.weak hr))⟩
 · rw [Heap.size_push]
   rcases List.mem_cons.mp hb with rfl | hb
   · exact Nat.lt_succ_self _
   · rw [List.mem_singleton.mp hb]; exact Nat.lt_succ_of_lt hlt
 · rw [List.getElem?_map] at hb
   refine el_EA (Option.map_eq_some_iff.mp hb) ?_; intro a ha zz7
   obtain rfl := zz7
   refine el_EA (Paired.get hp ha) ?_; intro v' hv' hR
   have : v' = v := by
     have h1 : (List.toArray vs)[i]? = some v := hP
     rw [List.getElem?_toArray, hv'] at h1
     exact Option.some.inj h1
   subst this
   rw [Heap.size_push] at hC hs
   exact wpAny_mono (turn i v' a C s₃ m₃ E' ha (R.up (hup hk).on hR) ⟨⟨st.gens, st.drawn, st.os⟩, hup hk, by lia⟩ (Nat.le_trans (Nat.le_succ _) hC) hn hm) (fun y s₄ ⟨u, r⟩ => ⟨⟨u.st, u.keep⟩, r⟩) fun _ _ e => e
theorem comp_listK {α : Type} {R : Rel α} {R' : Rel β} {f : α → β} {xs : List α} {s₁ : Shared} {xv : Value} {elt : Expr} {x : Str} {scope : Scope} {cl : List (Str × Addr)} {Q : Value → Shared → Prop}
   (hh : A.handled = none) (hl : (RL R).r All s₁.heap xv xs) (hsz : xs.length ≤ sizeLine)
   (turn : ∀ (i : Nat) v a C s₃ m₃ (E' : Value → Shared → Prop), (xs : List α)[i]? = some a → R.r All s₃.heap v a → Up s₁ s₃ → s₁.heap.objs.size ≤ C → s₃.heap.Ns C m₃ → m₃ x = some v →
     wpAny (model prog w) A (eval elt (compEnvC scope cl C env)) (fun y s₄ => (Sm s₃ s₄ ∧ Keep s₃.heap s₄.heap) ∧ R'.r (fun a => s₃.heap.objs.size ≤ a) s₄.heap y (f a)) E' s₃)
   (fin : ∀ v s', Up s₁ s' → (RL R').r (fun a => s₁.heap.objs.size ≤ a) s'.heap v (xs.map f) → Q v s') :
   wpAny (model prog w) A (pyIter xv) (CompGoal prog w A env elt x scope cl β Q s₁) E s₁ := by
 refine el_EEAAA hl ?_; try clear hl; intro ax vs zz8 _ hpl hp
 obtain rfl := zz8
 have hl := hpl.isList
 refine wpAny_pyIter_list hl ?_
 have hlt : ax < s₁.heap.objs.size := by obtain ⟨_, e, _⟩ := hl; exact Heap.lt_size e
 have hv : vs.length = xs.length := Paired.length hp
 have hup : ∀ {h : Heap}, KeepNot [s₁.heap.objs.size] (s₁.heap.push { cls := .type "list_iterator", data := .fields #[.ref ax, .int 0 0] }) h → Keep s₁.heap h := fun k b o e => k b o (by simpa using Nat.ne_of_lt (Heap.lt_size e)) (Heap.get?_push_of_some _ e)
 refine ⟨Up.push _ _, s₁.heap.objs.size, [s₁.heap.objs.size, ax], [s₁.heap.objs.size], (List.toArray vs).size, _, _, R', xs.map f, rfl, Walks.list hh _ ax (Nat.ne_of_lt hlt) (List.toArray vs), by rw [List.size_toArray, hv]; exact hsz,
   ⟨⟨_, Heap.get?_push_size _ rfl, rfl, rfl⟩, hl.push _⟩, fun b hb => ?_, ⟨by rw [List.size_toArray, List.length_map, hv], fun i v b C s₃ m₃ E' hb hP hC hk hs st hn hm => ?_⟩, fun v s' st hk hs hr => fin v s' ⟨⟨st.gens, st.drawn, st.os⟩, hup hk, by rw [Heap.size_push] at hs; lia⟩ ((RL R').mono (fun a ha => by rw [Heap.size_push] at ha; lia) (RLd.weak hr))⟩
 · rw [Heap.size_push]
   rcases List.mem_cons.mp hb with rfl | hb
   · exact Nat.lt_succ_self _
   · rw [List.mem_singleton.mp hb]; exact Nat.lt_succ_of_lt hlt
 · rw [List.getElem?_map] at hb
   refine el_EA (Option.map_eq_some_iff.mp hb) ?_; intro a ha zz9
   obtain rfl := zz9
   refine el_EA (Paired.get hp ha) ?_; intro v' hv' hR
   have : v' = v := by
     have h1 : (List.toArray vs)[i]? = some v := hP
     rw [List.getElem?_toArray, hv'] at h1
     exact Option.some.inj h1
   subst this
   rw [Heap.size_push] at hC hs
   exact wpAny_mono (turn i v' a C s₃ m₃ E' ha (R.up (hup hk).on hR) ⟨⟨st.gens, st.drawn, st.os⟩, hup hk, by lia⟩ (Nat.le_trans (Nat.le_succ _) hC) hn hm) (fun y s₄ h => h) fun _ _ e => e
theorem comp_listD {α : Type} {R : Rel α} {R' : Rel β} {f : α → β} {xs : List α} {s₁ : Shared} {xv : Value} {elt : Expr} {x : Str} {scope : Scope} {cl : List (Str × Addr)} {Q : Value → Shared → Prop}
   (hh : A.handled = none) (hl : (RL R).r All s₁.heap xv xs) (hsz : xs.length ≤ sizeLine)
   (turn : ∀ (i : Nat) v a C s₃ m₃ (E' : Value → Shared → Prop), (xs : List α)[i]? = some a → R.r All s₃.heap v a → Up s₁ s₃ → s₁.heap.objs.size ≤ C → s₃.heap.Ns C m₃ → m₃ x = some v →
     wpAny (model prog w) A (eval elt (compEnvC scope cl C env)) (fun y s₄ => Up s₃ s₄ ∧ R'.r (fun a => s₃.heap.objs.size ≤ a) s₄.heap y (f a)) E' s₃)
   (fin : ∀ v s', Up s₁ s' → (RLd R').r (fun a => s₁.heap.objs.size ≤ a) s'.heap v (xs.map f) → Q v s') :
   wpAny (model prog w) A (pyIter xv) (CompGoal prog w A env elt x scope cl β Q s₁) E s₁ := by
 refine el_EEAAA hl ?_; try clear hl; intro ax vs zz10 _ hpl hp
 obtain rfl := zz10
 have hl := hpl.isList
 refine wpAny_pyIter_list hl ?_
 have hlt : ax < s₁.heap.objs.size := by obtain ⟨_, e, _⟩ := hl; exact Heap.lt_size e
 have hv : vs.length = xs.length := Paired.length hp
 have hup : ∀ {h : Heap}, KeepNot [s₁.heap.objs.size] (s₁.heap.push { cls := .type "list_iterator", data := .fields #[.ref ax, .int 0 0] }) h → Keep s₁.heap h := fun k b o e => k b o (by simpa using Nat.ne_of_lt (Heap.lt_size e)) (Heap.get?_push_of_some _ e)
 refine ⟨Up.push _ _, s₁.heap.objs.size, [s₁.heap.objs.size, ax], [s₁.heap.objs.size], (List.toArray vs).size, _, _, R', xs.map f, rfl, Walks.list hh _ ax (Nat.ne_of_lt hlt) (List.toArray vs), by rw [List.size_toArray, hv]; exact hsz,
   ⟨⟨_, Heap.get?_push_size _ rfl, rfl, rfl⟩, hl.push _⟩, fun b hb => ?_, ⟨by rw [List.size_toArray, List.length_map, hv], fun i v b C s₃ m₃ E' hb hP hC hk hs st hn hm => ?_⟩, fun v s' st hk hs hr => fin v s' ⟨⟨st.gens, st.drawn, st.os⟩, hup hk, by rw [Heap.size_push] at hs; lia⟩ ((RLd R').mono (fun a ha => by rw [Heap.size_push] at ha; lia) hr)⟩
 · rw [Heap.size_push]
   rcases List.mem_cons.mp hb with rfl | hb
   · exact Nat.lt_succ_self _
   · rw [List.mem_singleton.mp hb]; exact Nat.lt_succ_of_lt hlt
 · rw [List.getElem?_map] at hb
   refine el_EA (Option.map_eq_some_iff.mp hb) ?_; intro a ha zz11
   obtain rfl := zz11
   refine el_EA (Paired.get hp ha) ?_; intro v' hv' hR
   have : v' = v := by
     have h1 : (List.toArray vs)[i]? = some v := hP
     rw [List.getElem?_toArray, hv'] at h1
     exact Option.some.inj h1
   subst this
   rw [Heap.size_push] at hC hs
   exact wpAny_mono (turn i v' a C s₃ m₃ E' ha (R.up (hup hk).on hR) ⟨⟨st.gens, st.drawn, st.os⟩, hup hk, by lia⟩ (Nat.le_trans (Nat.le_succ _) hC) hn hm) (fun y s₄ ⟨u, r⟩ => ⟨⟨u.st, u.keep⟩, r⟩) fun _ _ e => e
theorem comp_range {R' : Rel β} {f : Nat → β} {k : Nat} {a : Int} {s₁ : Shared} {r : Addr} {b : Int} {t u v : Tok} {elt : Expr} {x : Str} {scope : Scope} {cl : List (Str × Addr)} {Q : Value → Shared → Prop}
   (hh : A.handled = none) (hr : IsRange s₁.heap r a b 1 t u v) (hsm : Builtin.Range.small a b 1 = true) (hn : Builtin.Range.rangeSize a b 1 = ((k : Nat) : Int)) (hsz : k ≤ sizeLine)
   (turn : ∀ i : Nat, i < k → ∀ t' C s₃ m₃ (E' : Value → Shared → Prop), Up s₁ s₃ → s₁.heap.objs.size ≤ C → s₃.heap.Ns C m₃ → m₃ x = some (.int (a + (i : Int)) t') →
     wpAny (model prog w) A (eval elt (compEnvC scope cl C env)) (fun y s₄ => Up s₃ s₄ ∧ R'.r (fun a => s₃.heap.objs.size ≤ a) s₄.heap y (f i)) E' s₃)
   (fin : ∀ v s', Up s₁ s' → (RL R').r (fun a => s₁.heap.objs.size ≤ a) s'.heap v ((List.range k).map f) → Q v s') :
   wpAny (model prog w) A (pyIter (.ref r)) (CompGoal prog w A env elt x scope cl β Q s₁) E s₁ := by
 refine wpAny_pyIter_range hr hsm ?_
 have hup : ∀ {h : Heap} {o : Obj}, KeepNot [s₁.heap.objs.size] (s₁.heap.push o) h → Keep s₁.heap h := fun k b o e => k b o (by simpa using Nat.ne_of_lt (Heap.lt_size e)) (Heap.get?_push_of_some _ e)
 refine ⟨Up.push _ _, s₁.heap.objs.size, [s₁.heap.objs.size], [s₁.heap.objs.size], k, _, _, R', _, rfl, LCg.range_walks hh a k, hsz, by show IsRangeIter _ _ _ _ _; rw [hn]; simpa using Heap.get?_push_size _ rfl, fun b hb => ?_,
   ⟨by rw [List.length_map, List.length_range], fun i v b C s₃ m₃ E' hb hP hC hk hs st hn' hm => ?_⟩, fun v s' st hk hs hr => fin v s' ⟨⟨st.gens, st.drawn, st.os⟩, hup hk, by rw [Heap.size_push] at hs; lia⟩ ((RL R').mono (fun a ha => by rw [Heap.size_push] at ha; lia) (RLd.weak hr))⟩
 · rw [List.mem_singleton.mp hb, Heap.size_push]; exact Nat.lt_succ_self _
 · rw [List.getElem?_map] at hb
   refine el_EA (Option.map_eq_some_iff.mp hb) ?_; intro j hj zz12
   obtain rfl := zz12
   obtain ⟨hlt, e⟩ := List.getElem?_eq_some_iff.mp hj
   rw [List.getElem_range] at e
   rw [List.length_range] at hlt
   subst e
   refine el_E hP ?_; try clear hP; intro t' zz13
   obtain rfl := zz13
   rw [Heap.size_push] at hC hs
   exact wpAny_mono (turn i hlt t' C s₃ m₃ E' ⟨⟨st.gens, st.drawn, st.os⟩, hup hk, by lia⟩ (Nat.le_trans (Nat.le_succ _) hC) hn' hm) (fun y s₄ ⟨u, r⟩ => ⟨⟨u.st, u.keep⟩, r⟩) fun _ _ e => e
theorem comp_rangeD {R' : Rel β} {f : Nat → β} {k : Nat} {a : Int} {s₁ : Shared} {r : Addr} {b : Int} {t u v : Tok} {elt : Expr} {x : Str} {scope : Scope} {cl : List (Str × Addr)} {Q : Value → Shared → Prop}
   (hh : A.handled = none) (hr : IsRange s₁.heap r a b 1 t u v) (hsm : Builtin.Range.small a b 1 = true) (hn : Builtin.Range.rangeSize a b 1 = ((k : Nat) : Int)) (hsz : k ≤ sizeLine)
   (turn : ∀ i : Nat, i < k → ∀ t' C s₃ m₃ (E' : Value → Shared → Prop), Up s₁ s₃ → s₁.heap.objs.size ≤ C → s₃.heap.Ns C m₃ → m₃ x = some (.int (a + (i : Int)) t') →
     wpAny (model prog w) A (eval elt (compEnvC scope cl C env)) (fun y s₄ => Up s₃ s₄ ∧ R'.r (fun a => s₃.heap.objs.size ≤ a) s₄.heap y (f i)) E' s₃)
   (fin : ∀ v s', Up s₁ s' → (RLd R').r (fun a => s₁.heap.objs.size ≤ a) s'.heap v ((List.range k).map f) → Q v s') :
   wpAny (model prog w) A (pyIter (.ref r)) (CompGoal prog w A env elt x scope cl β Q s₁) E s₁ := by
 refine wpAny_pyIter_range hr hsm ?_
 have hup : ∀ {h : Heap} {o : Obj}, KeepNot [s₁.heap.objs.size] (s₁.heap.push o) h → Keep s₁.heap h := fun k b o e => k b o (by simpa using Nat.ne_of_lt (Heap.lt_size e)) (Heap.get?_push_of_some _ e)
 refine ⟨Up.push _ _, s₁.heap.objs.size, [s₁.heap.objs.size], [s₁.heap.objs.size], k, _, _, R', _, rfl, LCg.range_walks hh a k, hsz, by show IsRangeIter _ _ _ _ _; rw [hn]; simpa using Heap.get?_push_size _ rfl, fun b hb => ?_,
   ⟨by rw [List.length_map, List.length_range], fun i v b C s₃ m₃ E' hb hP hC hk hs st hn' hm => ?_⟩, fun v s' st hk hs hr => fin v s' ⟨⟨st.gens, st.drawn, st.os⟩, hup hk, by rw [Heap.size_push] at hs; lia⟩ ((RLd R').mono (fun a ha => by rw [Heap.size_push] at ha; lia) hr)⟩
 · rw [List.mem_singleton.mp hb, Heap.size_push]; exact Nat.lt_succ_self _
 · rw [List.getElem?_map] at hb
   refine el_EA (Option.map_eq_some_iff.mp hb) ?_; intro j hj zz14
   obtain rfl := zz14
   obtain ⟨hlt, e⟩ := List.getElem?_eq_some_iff.mp hj
   rw [List.getElem_range] at e
   rw [List.length_range] at hlt
   subst e
   refine el_E hP ?_; try clear hP; intro t' zz15
   obtain rfl := zz15
   rw [Heap.size_push] at hC hs
   exact wpAny_mono (turn i hlt t' C s₃ m₃ E' ⟨⟨st.gens, st.drawn, st.os⟩, hup hk, by lia⟩ (Nat.le_trans (Nat.le_succ _) hC) hn' hm) (fun y s₄ ⟨u, r⟩ => ⟨⟨u.st, u.keep⟩, r⟩) fun _ _ e => e
end
noncomputable abbrev sW (l : List Nat) : Str := ⟨l.toArray⟩
noncomputable def RC : Rel Nat where
 r := fun _ _ v c => ∃ t, v = .str (sW [c]) t
 up := fun _ x => x
 mono := fun _ x => x
 adr := fun ⟨_, e⟩ q => by rw [e] at q; cases q
noncomputable def RW : Rel (List Nat) where
 r := fun _ _ v l => ∃ t, v = .str (sW l) t
 up := fun _ x => x
 mono := fun _ x => x
 adr := fun ⟨_, e⟩ q => by rw [e] at q; cases q
theorem ab_const {c : Const} {k : Nat} {p : Pos} {name : Str} {env : Env} {whole : Sem Value} : attributeBase (.Constant c k p) name env whole = whole := rfl
theorem ab_name {x : Str} {p : Pos} {name : Str} {env : Env} {whole : Sem Value} : attributeBase (.Name x p) name env whole = whole := rfl
theorem pl_none {h : Heap} {ax : Addr} {its : Array Value} (hpl : h.PlainList ax its) : ∀ a, Value.ref ax = .ref a → ∃ ob, h.get? a = some ob ∧ ob.dict = none := by
 intro a e
 cases e
 refine el_E hpl ?_; try clear hpl; intro n e
 exact ⟨_, e, rfl⟩
theorem str_none {x : Str} {t : Tok} {h : Heap} : ∀ a, Value.str x t = .ref a → ∃ ob, h.get? a = some ob ∧ ob.dict = none := fun _ e => nomatch e
theorem deep_none {A : Around} (h : A.handled = none) (env : Env) : (A.deeper env).handled = none := h
noncomputable def notStar : Expr → Bool
 | .Starred .. => false
 | _ => true
theorem star_of {e : Expr} {rest : List Expr} {env : Env} (h : notStar e = true) : starEach (e :: rest) env = (false, eval e env) :: starEach rest env := by
 cases e <;> first | rfl | cases h
theorem sp_more {M : Model} {A : Around} {E : Value → Shared → Prop} {s : Shared} {env : Env} {e : Expr} {rest : List Expr} {pos : Pos} {Q : List Value → Shared → Prop}
 (he : notStar e = true) (h : wpAny M A (eval e env) (fun v s₁ => wpAny M A (spliced (backTo pos (starEach rest env))) (fun vs s₂ => Q (v :: vs) s₂) E s₁) E s) :
 wpAny M A (spliced (backTo pos (starEach (e :: rest) env))) Q E s := spliced_more h (star_of he)
section
variable {M : Model} {A : Around} {E : Value → Shared → Prop} {s : Shared} {env : Env} {pos : Pos} {Q : Value → Shared → Prop}
theorem args_all : ∀ {es : List Expr}, es.all notStar = true → (backTo pos (starEach es env)).any (·.1) = false
 | [], _ => rfl
 | e :: r, h => by
   rw [List.all_cons, Bool.and_eq_true] at h
   rw [star_of h.1]
   show (false || (backTo pos (starEach r env)).any (·.1)) = false
   rw [args_all h.2]; rfl
theorem ea {f : Value} {e : Expr} {r : List Expr} {Q : Args → Shared → Prop} (he : (e :: r).all notStar = true) (h : wpAny M A (spliced (backTo pos (starEach (e :: r) env))) (fun vs s₁ => Q ⟨vs, []⟩ s₁) E s) :
   wpAny M A (evalArgs f true (backTo pos (starEach (e :: r) env)) []) Q E s := by
 have h1 : notStar e = true := by rw [List.all_cons, Bool.and_eq_true] at he; exact he.1
 rw [star_of h1] at h ⊢
 exact evalArgs_plain h
theorem cw_type {T : String} {e : Expr} {r : List Expr} (he : (e :: r).all notStar = true) (h : wpAny M A (spliced (backTo pos (starEach (e :: r) env))) (fun vs s₁ => wpAny M A (call (.type T) vs) Q E s₁) E s) :
   wpAny M A (callWith pos (.type T) [] (backTo pos (starEach (e :: r) env)) []) Q E s :=
 PySem.callWith_type (args_all he) (ea he h)
theorem cw_bi {id : String} {e : Expr} {r : List Expr} (he : (e :: r).all notStar = true) (h : wpAny M A (spliced (backTo pos (starEach (e :: r) env))) (fun vs s₁ => wpAny M A (call (.builtin id) vs) Q E s₁) E s) :
   wpAny M A (callWith pos (.builtin id) [] (backTo pos (starEach (e :: r) env)) []) Q E s :=
 callWith_builtin (args_all he) (ea he h)
theorem cw_def {f : Addr} {e : Expr} {r : List Expr} (he : (e :: r).all notStar = true) (h : wpAny M A (spliced (backTo pos (starEach (e :: r) env))) (fun vs s₁ => PySem.W.FnAt f s₁.heap ∧ wpAny M A (call (.ref f) vs) Q E s₁) E s) :
   wpAny M A (callWith pos (.ref f) [] (backTo pos (starEach (e :: r) env)) []) Q E s :=
 PySem.W.callWith_of (by rw [args_all he]; rfl) PySem.W.keeps_F (ea he h)
end
section
variable {prog : Program} {w : World} {A : Around} {E : Value → Shared → Prop} {s : Shared} {env : Env}
theorem item_ {value slice : Expr} {l : Addr} {its : Array Value} {k : Int} {t : Tok} {v : Value} {Q : Value → Shared → Prop} (hpl : s.heap.PlainList l its) (hs : subscripted slice false (.ref l) (.int k t) = operate [.ref l, .int k t] (getItem (.ref l) (.int k t)))
   (h0 : 0 ≤ k) (hk : k < 2 ^ 63) (hx : its[k.toNat]? = some v) (h : Q v s) : wpAny (model prog w) A (subscriptTail value slice (.ref l) (.int k t)) Q E s :=
 tail_any hpl.isList.typeIs slot_list_getitem.lookup (wpAny_getItem_list hpl.isList h0 hk hx h) hs
theorem meth1 {o e : Expr} {name : Str} {apos pos : Pos} {T id : String} {Q : Value → Shared → Prop} (hbase : attributeBase o name env (eval o env) = eval o env) (he₀ : notStar e = true) (hline : (apos.endLine == pos.line) = true)
   (pa : PlainAttrs T) (slot : Slot T name id) (hty : typeOf (.builtin id) = pure (.type "method_descriptor"))
   (h : wpAny (model prog w) A (eval o env) (fun ov s₁ => s₁.TypeIs ov T ∧ (∀ a, ov = .ref a → ∃ ob, s₁.heap.get? a = some ob ∧ ob.dict = none) ∧
     wpAny (model prog w) A (eval e env) (fun v s₂ => wpAny (model prog w) A (call (.builtin id) [ov, v]) Q E s₂) E s₁) E s) :
   wpAny (model prog w) A (eval (.Call (.Attribute o name apos) [e] [] pos) env) Q E s := by
 have he : starEach [e] env = (false, eval e env) :: starEach [] env := star_of he₀
 refine wpAny_Call_method (T := T) (id := id) hbase ?_ hline pa slot hty (wpAny_mono h (fun ov s₁ ⟨h1, h2, h3⟩ => ⟨h1, h2, ?_⟩) fun _ _ x => x)
 · rw [he]; rfl
 · refine callWith_method1 (spliced_more (wpAny_mono h3 (fun v s₂ h4 => spliced_none h4) fun _ _ x => x) he) ?_ ?_
   · exact he
   · rfl
theorem meth0 {o : Expr} {name : Str} {apos pos : Pos} {T id : String} {Q : Value → Shared → Prop} (hbase : attributeBase o name env (eval o env) = eval o env) (hline : (apos.endLine == pos.line) = true)
   (pa : PlainAttrs T) (slot : Slot T name id) (hty : typeOf (.builtin id) = pure (.type "method_descriptor"))
   (h : wpAny (model prog w) A (eval o env) (fun ov s₁ => s₁.TypeIs ov T ∧ (∀ a, ov = .ref a → ∃ ob, s₁.heap.get? a = some ob ∧ ob.dict = none) ∧
     wpAny (model prog w) A (call (.builtin id) [ov]) Q E s₁) E s) :
   wpAny (model prog w) A (eval (.Call (.Attribute o name apos) [] [] pos) env) Q E s := by
 refine wpAny_Call_method (T := T) (id := id) hbase rfl hline pa slot hty (wpAny_mono h (fun ov s₁ ⟨h1, h2, h3⟩ => ⟨h1, h2, ?_⟩) fun _ _ x => x)
 exact callWith_method0 h3
theorem meth2 {o e e' : Expr} {name : Str} {apos pos : Pos} {T id : String} {Q : Value → Shared → Prop} (hbase : attributeBase o name env (eval o env) = eval o env) (he₀ : notStar e = true) (he₁ : notStar e' = true) (hline : (apos.endLine == pos.line) = true)
   (pa : PlainAttrs T) (slot : Slot T name id) (hty : typeOf (.builtin id) = pure (.type "method_descriptor"))
   (h : wpAny (model prog w) A (eval o env) (fun ov s₁ => s₁.TypeIs ov T ∧ (∀ a, ov = .ref a → ∃ ob, s₁.heap.get? a = some ob ∧ ob.dict = none) ∧
     wpAny (model prog w) A (eval e env) (fun v s₂ => wpAny (model prog w) A (eval e' env) (fun v' s₃ => wpAny (model prog w) A (call (.builtin id) [ov, v, v']) Q E s₃) E s₂) E s₁) E s) :
   wpAny (model prog w) A (eval (.Call (.Attribute o name apos) [e, e'] [] pos) env) Q E s := by
 have he : starEach [e, e'] env = (false, eval e env) :: starEach [e'] env := star_of he₀
 have he' : starEach [e'] env = (false, eval e' env) :: starEach [] env := star_of he₁
 refine wpAny_Call_method (T := T) (id := id) hbase ?_ hline pa slot hty (wpAny_mono h (fun ov s₁ ⟨h1, h2, h3⟩ => ⟨h1, h2, ?_⟩) fun _ _ x => x)
 · rw [he, he']; rfl
 · refine callWith_method1 (spliced_more (wpAny_mono h3 (fun v s₂ h4 => spliced_more (wpAny_mono h4 (fun v' s₃ h5 => spliced_none h5) fun _ _ x => x) he') fun _ _ x => x) he) ?_ ?_
   · exact he
   · rw [he']; rfl
end
section
variable {prog : Program} {w : World} {A : Around} {E : Value → Shared → Prop} {env : Env} {β : Type}
theorem comp_str {R' : Rel β} {f : Nat → β} {l : List Nat} {s₁ : Shared} {t : Tok} {elt : Expr} {x : Str} {scope : Scope} {cl : List (Str × Addr)} {Q : Value → Shared → Prop}
   (hh : A.handled = none) (hsz : l.length ≤ sizeLine)
   (turn : ∀ (i : Nat) c t' C s₃ m₃ (E' : Value → Shared → Prop), l[i]? = some c → Up s₁ s₃ → s₁.heap.objs.size ≤ C → s₃.heap.Ns C m₃ → m₃ x = some (.str (sW [c]) t') →
     wpAny (model prog w) A (eval elt (compEnvC scope cl C env)) (fun y s₄ => Up s₃ s₄ ∧ R'.r (fun a => s₃.heap.objs.size ≤ a) s₄.heap y (f c)) E' s₃)
   (fin : ∀ v s', Up s₁ s' → (RL R').r (fun a => s₁.heap.objs.size ≤ a) s'.heap v (l.map f) → Q v s') :
   wpAny (model prog w) A (pyIter (.str (sW l) t)) (CompGoal prog w A env elt x scope cl β Q s₁) E s₁ := by
 refine wpAny_pyIter_str fun o St W hst => ?_
 have hup : ∀ {h : Heap}, KeepNot [s₁.heap.objs.size] (s₁.heap.push o) h → Keep s₁.heap h := fun k b o e => k b o (by simpa using Nat.ne_of_lt (Heap.lt_size e)) (Heap.get?_push_of_some _ e)
 refine ⟨Up.push _ _, s₁.heap.objs.size, [s₁.heap.objs.size], [s₁.heap.objs.size], (sW l).cps.size, SignAt (sW l), St, R', l.map f, rfl, W A hh, by show l.toArray.size ≤ _; rw [List.size_toArray]; exact hsz, hst, fun b hb => ?_,
   ⟨by show (l.map f).length = l.toArray.size; rw [List.size_toArray, List.length_map], fun i v b C s₃ m₃ E' hb hP hC hk hs st hn' hm => ?_⟩, fun v s' st hk hs hr => fin v s' ⟨⟨st.gens, st.drawn, st.os⟩, hup hk, by rw [Heap.size_push] at hs; lia⟩ ((RL R').mono (fun a ha => by rw [Heap.size_push] at ha; exact Nat.le_trans (Nat.le_succ _) ha) (RLd.weak hr))⟩
 · rw [List.mem_singleton.mp hb, Heap.size_push]; exact Nat.lt_succ_self _
 · rw [List.getElem?_map] at hb
   refine el_EA (Option.map_eq_some_iff.mp hb) ?_; intro c hj zz0
   obtain rfl := zz0
   refine el_EEA hP ?_; try clear hP; intro c' t' hc' zz1
   obtain rfl := zz1
   have : c' = c := by
     have h1 : l.toArray[i]? = some c' := hc'
     rw [List.getElem?_toArray, hj] at h1
     exact (Option.some.inj h1).symm
   subst this
   rw [Heap.size_push] at hC hs
   exact wpAny_mono (turn i c' t' C s₃ m₃ E' hj ⟨⟨st.gens, st.drawn, st.os⟩, hup hk, by lia⟩ (Nat.le_trans (Nat.le_succ _) hC) hn' hm) (fun y s₄ ⟨u, r⟩ => ⟨⟨u.st, u.keep⟩, r⟩) fun _ _ e => e
theorem c_loc {s : Shared} {scope : Scope} {cl : List (Str × Addr)} {C : Addr} {m : Str → Option Value} {x : Str} {pos : Pos} {v : Value} {Q : Value → Shared → Prop} (hn : s.heap.Ns C m)
 (hk : (compEnvC scope cl C env).scope.kind = .function) (hl : (compEnvC scope cl C env).kindOf x = some .local) (hd : (x == ("__debug__" : Str)) = false) (hv : m x = some v) (h : Q v s) :
 wpAny (model prog w) A (eval (.Name x pos) (compEnvC scope cl C env)) Q E s := wpAny_Name (wpAny_loadName_local hk hl hn hv h) hd
theorem c_cell {s : Shared} {scope : Scope} {cl : List (Str × Addr)} {C c : Addr} {x : Str} {pos : Pos} {v : Value} {Q : Value → Shared → Prop} (hcl : cl.lookup x = some c)
 (hk : (compEnvC scope cl C env).scope.kind = .function) (hl : (compEnvC scope cl C env).kindOf x = some .cell) (hd : (x == ("__debug__" : Str)) = false) (hc : s.heap.IsCell c (some v)) (h : Q v s) :
 wpAny (model prog w) A (eval (.Name x pos) (compEnvC scope cl C env)) Q E s := wpAny_Name (wpAny_loadName_cell hk hl hcl hc h) hd
theorem paired_str {h : Heap} {ok : Addr → Prop} {vs : List Value} {cs : List Nat} (p : Paired (RC.r ok h) vs cs) (i : Nat) (hi : i < vs.length) : ∃ c t, cs[i]? = some c ∧ vs[i] = .str (sW [c]) t := by
 obtain ⟨c, h1, t, h2⟩ := Paired.get' p (List.getElem?_eq_getElem hi)
 exact ⟨c, t, h1, h2⟩
noncomputable def isSgn (k : Nat) : Value → Bool
 | .str x _ => x == sW [k]
 | _ => false
theorem sW_inj {a b : List Nat} (h : sW a = sW b) : a = b := by
 have := congrArg (fun s : Str => s.cps.toList) h
 simpa using this
theorem sW_beq (a b : List Nat) : (sW a == sW b) = decide (a = b) := by
 by_cases h : a = b
 · subst h; simp
 · rw [decide_eq_false h]
   exact beq_eq_false_iff_ne.mpr fun e => h (sW_inj e)
theorem idx_strs {s : Shared} {l : Addr} {vs : List Value} {cs : List Nat} {k : Nat} {t : Tok} {Q : Value → Shared → Prop} (hl : s.heap.PlainList l (List.toArray vs)) (hp : Paired (RC.r All s.heap) vs cs) (hlen : cs.length ≤ 1000) (hk : k ∈ cs)
   (h : ∀ t' s', Up s s' → Q (.int (cs.idxOf k : Nat) t') s') : wpAny (model prog w) A (call (.builtin "list.index") [.ref l, .str (sW [k]) t]) Q E s := by
 refine el_E hl ?_; try clear hl; intro n ho
 have hlen' := Paired.length hp
 have hj : cs.idxOf k < cs.length := List.idxOf_lt_length_iff.mpr hk
 refine call_meets PySem.F.slot_list_index ⟨_, ho, rfl⟩ PySem.F.entry_list_index (PySem.F.args_list_index_2 _ _)
   (SeqAt.list_indexAt l (List.toArray vs) n none #[] (.str (sW [k]) t) (isSgn k) (cs.idxOf k) (by simpa [hlen'] using hj) (by lia) ?_ ?_) ⟨ho, fun y hy => ?_, h _ _ (Up.toks _)⟩
 · refine el_EEA (paired_str hp (cs.idxOf k) (by lia)) ?_; intro c u h1 h2
   show isSgn k vs[cs.idxOf k] = true
   rw [h2]
   have : c = k := by
     rw [List.getElem?_eq_getElem hj, List.getElem_idxOf hj] at h1
     exact (Option.some.inj h1).symm
   subst this
   show (sW [c] == sW [c]) = true
   rw [sW_beq]; simp
 · intro j hjs hlt
   have hjs' : j < vs.length := by simpa using hjs
   refine el_EEA (paired_str hp j hjs') ?_; intro c u h1 h2
   show isSgn k vs[j] = false
   rw [h2]
   show (sW [c] == sW [k]) = false
   rw [sW_beq, decide_eq_false_iff_not]
   intro e
   have e' : c = k := by simpa using e
   subst e'
   have hjc : j < cs.length := by lia
   have h3 : cs[j] = c := by rw [List.getElem?_eq_getElem hjc] at h1; exact Option.some.inj h1
   have h4 := List.not_of_lt_findIdx (p := (· == c)) (xs := cs) (i := j) hlt
   simp [h3] at h4
 · have hm : y ∈ vs := by simpa using hy
   obtain ⟨i, hi, zz2⟩ := List.getElem_of_mem hm
   obtain rfl := zz2
   refine el_EEA (paired_str hp i hi) ?_; intro c u _ h2
   rw [h2]
   exact fun _ _ _ _ hq => eqBool_str hq
end
section
variable {prog : Program} {w : World} {A : Around} {s : Shared} {P : Adr} {mg mb : Str → Option Value}
theorem c_places {va : Value} {alpha l : List Nat} {t : Tok} (hroom : A.depth < recursionLimit) (hh : A.handled = none) (W : Wd P mg mb s.heap) (ha : (RL RC).r All s.heap va alpha) (hal : alpha.length ≤ 1000) (hl : l.length ≤ 1000) (hm : ∀ c ∈ l, c ∈ alpha) :
   codeAny (model prog w) A (.call (.ref P.places) ⟨[va, .str (sW l) t], []⟩) (RetD (RL RI) (l.map fun c => ((alpha.idxOf c : Nat) : Int)) s) s := by
 refine enterZ (binds := [(Str.ofString "alphabet", va), (Str.ofString "word", .str (sW l) t)]) hroom W.dplaces W.lim (by intros; rfl) (by rfl) (by rfl) ?_ rfl rfl rfl
 intro L cd s₁ n F u
 refine wpAny_execs_cons ?_
 exists wpAny_Return_some ?_
 exists ListComp_M (β := Int) (by trivial) (by decide) (by trivial) (by decide) (by trivial) (fun _ => by with_unfolding_all rfl) ?_
 exists n_loc F (by trivial) (by trivial) (by trivial) (by trivial) ?_
 exists comp_str (l := l) (R' := RI) (f := fun c => ((alpha.idxOf c : Nat) : Int)) (deep_none hh _) (by rw [sizeLine_eq]; omega) ?_ ?_
 · intro i c t' C s₃ m₃ E' hc u₃ hC hn hx
   refine el_EEAAA ((RL RC).at ha (u.trans u₃)) ?_; intro ax vs zz0 _ hpl hp
   obtain rfl := zz0
   exists meth1 ab_name (by trivial) (by trivial) PySem.F.plainAttrs_list PySem.F.slot_list_index PySem.F.type_list_index ?_
   exists c_cell (v := .ref ax) (by trivial) (by trivial) (by trivial) (by trivial) ((F.pass u₃).cs (Str.ofString "alphabet") _ (by trivial)).1 ?_
   exists ⟨hpl.isList.typeIs, pl_none hpl, ?_⟩
   exists c_loc hn (by trivial) (by trivial) (by trivial) hx ?_
   exists idx_strs hpl hp hal (hm c (List.mem_of_getElem? hc)) fun t'' s' u' => ?_
   exact ⟨u', _, rfl⟩
 · intro v s' u' hr
   exact retD_ (F.sub u') (u.trans u').st ((RL RI).mono (fun a ha => Nat.le_trans F.top ha) hr)
end
theorem sW_append (a b : List Nat) : sW a ++ sW b = sW (a ++ b) := Str.ext' (by simp [Str.cps_append])
theorem ofString_empty : Str.ofString "" = sW [] := by decide +kernel
theorem join_empty : ∀ ls : List (List Nat), Str.join (sW []) (ls.map sW) = sW ls.flatten
 | [] => rfl
 | [x] => by simp [Str.join]
 | x :: y :: r => by
   have ih := join_empty (y :: r)
   show sW x ++ sW [] ++ Str.join (sW []) ((y :: r).map sW) = _
   rw [ih, sW_append, sW_append]
   simp
theorem paired_words {h : Heap} {ok : Addr → Prop} {vs : List Value} {ls : List (List Nat)} (p : Paired (RW.r ok h) vs ls) : ∃ l : List (Str × Tok), vs = strValues l ∧ l.map (·.1) = ls.map sW := by
 induction p with
 | nil => exact ⟨[], rfl, rfl⟩
 | cons x _ ih =>
   obtain ⟨t, e⟩ := x
   obtain ⟨l, h1, h2⟩ := ih
   exact ⟨(_, t) :: l, by rw [e, h1]; rfl, by rw [List.map_cons, List.map_cons, h2]⟩
theorem joinOk_of (ls : List (List Nat)) (h : ls.flatten.length ≤ 1000000) : JoinOk (sW []) (ls.map sW) = true := by
 unfold JoinOk
 rw [Bool.not_eq_true']
 have key : ∀ (l : List (List Nat)) (n : Nat), (l.map sW).foldl (fun n x => n + x.length + (sW []).length) n = n + l.flatten.length := by
   intro l
   induction l with
   | nil => intro n; simp
   | cons x r ih =>
     intro n
     rw [List.map_cons, List.foldl_cons, ih]
     have : (sW x).length = x.length := by show x.toArray.size = _; simp
     have h0 : (sW []).length = 0 := rfl
     rw [this, h0]
     simp
     lia
 rw [← Array.foldl_toList, List.toList_toArray, key]
 show decide _ = false
 rw [decide_eq_false_iff_not, sizeLine_eq]
 lia
section
variable {prog : Program} {w : World} {A : Around} {E : Value → Shared → Prop} {env : Env}
theorem join_words {s : Shared} {D : Addr} {vs : List Value} {ls : List (List Nat)} {ok : Addr → Prop} {t : Tok} {Q : Value → Shared → Prop} (hl : s.heap.PlainList D (List.toArray vs)) (hp : Paired (RW.r ok s.heap) vs ls) (hsz : ls.flatten.length ≤ 1000000)
   (hq : ∀ t' s', Up s s' → Q (.str (sW ls.flatten) t') s') : wpAny (model prog w) A (call (.builtin "str.join") [.str (Str.ofString "") t, .ref D]) Q E s := by
 refine el_EA (paired_words hp) ?_; intro l h1 h2
 subst h1
 rw [ofString_empty]
 refine SC.join hl.isList h2 (joinOk_of ls hsz) fun t' k => ?_
 have e : Txt.join (sW []) (ls.map sW) = sW ls.flatten := by
   show Builtin.Str.glued _ _ = _
   rw [StrLaws.glued_eq_join, join_empty]
 rw [e]
 exact hq t' _ (Up.toks k)
theorem range_one {s : Shared} {n : Int} {t : Tok} {Q : Value → Shared → Prop} (h : ∀ r s' t u v, Up s s' → IsRange s'.heap r 0 n 1 t u v → Q (.ref r) s') :
 wpAny (model prog w) A (call (.type "range") [.int n t]) Q E s := call_range_1 (h _ _ _ _ _ (Up.push _ _) (IsRange.new ..))
theorem rangeSize_nat {n : Nat} : Builtin.Range.rangeSize 0 (n : Int) 1 = ((n : Nat) : Int) := by
 rw [rangeSize_one]; split <;> lia
theorem small_nat {n : Nat} (h : n ≤ 1000000) : Builtin.Range.small 0 (n : Int) 1 = true := small_one (by lia) (by lia) (by lia) (by lia)
end
noncomputable def drawAt (n : Int) (k : Nat) : Nat := (Int.fmod (Int.fdiv n (4 ^ (k + 1))) 4).toNat
noncomputable def wordOf (letters : List Nat) (n : Int) : List Nat := (List.range (Int.fmod n 4).toNat).map fun k => letters.getD (drawAt n k) 0
theorem draw_lt (n : Int) (k : Nat) : drawAt n k < 4 := by
 unfold drawAt
 have := fmod_hi (Int.fdiv n (4 ^ (k + 1))) (n := 4) (by decide)
 have := fmod_lo (Int.fdiv n (4 ^ (k + 1))) (n := 4) (by decide)
 lia
theorem draw_is (n : Int) (k : Nat) : ∃ d : Nat, Int.fmod (Int.fdiv n (4 ^ (k + 1))) 4 = (d : Int) ∧ drawAt n k = d ∧ d < 4 := by
 have := fmod_hi (Int.fdiv n (4 ^ (k + 1))) (n := 4) (by decide)
 have := fmod_lo (Int.fdiv n (4 ^ (k + 1))) (n := 4) (by decide)
 refine ⟨drawAt n k, ?_, rfl, draw_lt n k⟩
 unfold drawAt
 lia
section
variable {prog : Program} {w : World} {A : Around} {s : Shared} {P : Adr} {mg mb : Str → Option Value}
theorem c_word {n : Int} {tn : Tok} {vl : Value} {letters : List Nat} (hroom : A.depth < recursionLimit) (hh : A.handled = none) (W : Wd P mg mb s.heap) (hl : (RL RC).r All s.heap vl letters) (h4 : letters.length = 4) :
   codeAny (model prog w) A (.call (.ref P.word) ⟨[.int n tn, vl], []⟩) (RetD RW (wordOf letters n) s) s := by
 refine enterZ (binds := [(Str.ofString "n", .int n tn), (Str.ofString "letters", vl)]) hroom W.dword W.lim (by intros; rfl) (by rfl) (by rfl) ?_ rfl rfl rfl
 intro L cd s₁ b F u
 have W₁ := W.up u
 have hlo := fmod_lo n (n := 4) (by decide)
 have hhi := fmod_hi n (n := 4) (by decide)
 refine wpAny_execs_cons ?_
 exists wpAny_Return_some ?_
 exists meth1 ab_const (by trivial) (by trivial) PySem.F.plainAttrs_str PySem.F.slot_str_join PySem.F.type_str_join ?_
 exists wpAny_Constant_str ?_
 exists ⟨typeIs_str _ _ _, str_none, ?_⟩
 exists from_ (Up.toks _ : Up s₁ _) fun s₂ u₂ => ?_
 replace F := F.pass u₂
 replace W₁ := W₁.up u₂
 exists ListComp_M (β := Nat) (by trivial) (by decide) (by trivial) (by decide) (by trivial) (fun _ => by with_unfolding_all rfl) ?_
 exists wpAny_Call_NameR ?_
 exists n_bi W₁ (by trivial) (by trivial) (by trivial) (by trivial) (by trivial) (by decide) (W.no "range" (by decide)) PyProof.Rows.boot_range ?_
 exists cw_type (by trivial) ?_
 exists sp_more (by trivial) ?_
 exists wpAny_BinOp ?_
 exists n_cell F (by trivial) (by trivial) (by trivial) (by trivial) (by trivial) ?_
 exists wpAny_Constant_int ?_
 exists PyProof.Rows.mod_int' (by decide) ?_
 exists spliced_none ?_
 exists range_one fun r s₃ t u₁ v u₃ hr => ?_
 replace u₃ : Up s₂ s₃ := (Up.toks _).trans u₃
 have hN : ((Int.fmod n 4).toNat : Int) = Int.fmod n 4 := by lia
 rw [← hN] at hr
 replace F := F.pass u₃
 have us : Up s s₃ := (u.trans u₂).trans u₃
 exists comp_range (R' := RC) (f := fun k => letters.getD (drawAt n k) 0) (k := (Int.fmod n 4).toNat) (deep_none hh _) hr (small_nat (by lia)) rangeSize_nat (by rw [sizeLine_eq]; lia) ?_ ?_
 · intro i hi t' C s₄ m₃ E' u₄ hC hn hx
   have F₃ := F.pass u₄
   refine el_EEAAA ((RL RC).at hl (us.trans u₄)) ?_; intro ax vs zz0 _ hpl hp
   obtain rfl := zz0
   exists Subscript_ ?_
   exists c_cell (by trivial) (by trivial) (by trivial) (by trivial) (F₃.cs (Str.ofString "letters") _ (by trivial)).1 ?_
   exists wpAny_BinOp ?_
   exists wpAny_BinOp ?_
   exists c_cell (by trivial) (by trivial) (by trivial) (by trivial) (F₃.cs (Str.ofString "n") _ (by trivial)).1 ?_
   exists wpAny_BinOp ?_
   exists wpAny_Constant_int ?_
   exists wpAny_BinOp ?_
   exists c_loc hn (by trivial) (by trivial) (by trivial) hx ?_
   exists wpAny_Constant_int ?_
   exists PyProof.Rows.add_int ?_
   exists PyProof.Rows.pow_int_small (by lia) (by lia) (by decide) ?_
   have e1 : (4 : Int) ^ (0 + (i : Int) + 1).toNat = 4 ^ (i + 1) := by
     have : (0 + (i : Int) + 1).toNat = i + 1 := by lia
     rw [this]
   rw [e1]
   have hi3 : i = 0 ∨ i = 1 ∨ i = 2 := by lia
   have hpos : (4 : Int) ^ (i + 1) ≠ 0 := by rcases hi3 with rfl | rfl | rfl <;> decide
   exists PyProof.Rows.floordiv_int hpos ?_ (.inl (PyProof.noPylong_small (by rcases hi3 with rfl | rfl | rfl <;> decide)))
   exists wpAny_Constant_int ?_
   exists PyProof.Rows.mod_int' (by decide) ?_
   have hdr := draw_is n i
   generalize Int.fmod (Int.fdiv n (4 ^ (i + 1))) 4 = z at hdr ⊢
   have hd2 := draw_lt n i
   have hz : z = (drawAt n i : Nat) := by obtain ⟨d, h1, h2, _⟩ := hdr; rw [h1, h2]
   generalize drawAt n i = d at hd2 hz ⊢
   subst hz
   have hdl : d < letters.length := by lia
   refine el_EA (Paired.get hp (List.getElem?_eq_getElem hdl)) ?_; intro v' hv' hR
   exists item_ hpl (by trivial) (by lia) (by lia) (v := v') ?_ ?_
   · rw [List.getElem?_toArray, Int.toNat_natCast]; exact hv'
   · rw [List.getD_eq_getElem?_getD, List.getElem?_eq_getElem hdl, Option.getD_some]
     exact ⟨Up.toks _, hR⟩
 · intro v s₄ u₄ hr'
   refine el_EEAAA hr' ?_; try clear hr'; intro ax vs zz1 _ hpl hp
   obtain rfl := zz1
   have hp' : Paired (RW.r All s₄.heap) vs (((List.range (Int.fmod n 4).toNat).map fun k => letters.getD (drawAt n k) 0).map fun c => [c]) := by
     clear hpl
     revert hp
     generalize ((List.range (Int.fmod n 4).toNat).map fun k => letters.getD (drawAt n k) 0) = cs
     intro hp
     induction hp with
     | nil => exact .nil
     | cons x _ ih => exact .cons x ih
   exists join_words hpl hp' ?_ fun t' s₅ u₅ => ?_
   · rw [← List.flatMap_def]; simp; lia
   · have e : (((List.range (Int.fmod n 4).toNat).map fun k => letters.getD (drawAt n k) 0).map fun c => [c]).flatten = wordOf letters n := by
       unfold wordOf
       rw [← List.flatMap_def]
       simp
     rw [e]
     exact retD_ (R := RW) (F.pass (u₄.trans u₅)) ((us.trans u₄).trans u₅).st ⟨_, rfl⟩
end
noncomputable abbrev lc2 (elt : Expr) (x₁ : Str) (p₁ : Pos) (i₁ : Expr) (x₂ : Str) (p₂ : Pos) (i₂ : Expr) (scope : Scope) (pos : Pos) : Expr := .ListComp elt [⟨.Name x₁ p₁, i₁, [], 0⟩, ⟨.Name x₂ p₂, i₂, [], 0⟩] scope pos
theorem turn0 (elt : Expr) (x₁ : Str) (p₁ : Pos) (i₁ : Expr) (x₂ : Str) (p₂ : Pos) (i₂ : Expr) (scope : Scope) (pos : Pos) (it acc : Value) (env : Env) :
 compTurn (lc2 elt x₁ p₁ i₁ x₂ p₂ i₂ scope pos) 0 it acc env = (do
   standAt i₁.pos
   match ← pyNext it with
   | none => pure (.done .next)
   | some v =>
     letOwnedTupleGo (.Name x₁ p₁) it v
     assign (.Name x₁ p₁) env v
     let x ← eval i₂ env
     standAt i₂.pos
     let x ← foldedSetIterable i₂ env x
     let _ ← runOwn (.compStart (lc2 elt x₁ p₁ i₁ x₂ p₂ i₂ scope pos) 1 (← holding [x] (pyIter x)) acc env) env
     again (.compLoop (lc2 elt x₁ p₁ i₁ x₂ p₂ i₂ scope pos) 0 it acc env)) := by rfl
theorem turn1 (elt : Expr) (x₁ : Str) (p₁ : Pos) (i₁ : Expr) (x₂ : Str) (p₂ : Pos) (i₂ : Expr) (scope : Scope) (pos : Pos) (it acc : Value) (env : Env) :
 compTurn (lc2 elt x₁ p₁ i₁ x₂ p₂ i₂ scope pos) 1 it acc env = (do
   standAt i₂.pos
   match ← pyNext it with
   | none => pure (.done .next)
   | some v =>
     letOwnedTupleGo (.Name x₂ p₂) it v
     assign (.Name x₂ p₂) env v
     (do let _ ← call (.builtin "list.append") [acc, ← eval elt env])
     again (.compLoop (lc2 elt x₁ p₁ i₁ x₂ p₂ i₂ scope pos) 1 it acc env)) := by rfl
section
variable {prog : Program} {w : World} {A : Around} {R : Result → Shared → Prop} {s : Shared} {elt : Expr} {x₁ : Str} {p₁ : Pos} {i₁ : Expr} {x₂ : Str} {p₂ : Pos} {i₂ : Expr} {scope : Scope} {pos : Pos} {it acc : Value} {env : Env}
theorem loop0 (I : Nat → Shared → Prop) (hs : ∀ x, foldedSetIterable i₂ env x = pure x)
   (turn : ∀ n s, I n s → wpAny (model prog w) A (pyNext it) (fun r s₁ => match r with
     | none => R (.ok .next) s₁
     | some v => wpAny (model prog w) A (assign (.Name x₁ p₁) env v) (fun _ s₂ => wpAny (model prog w) A (eval i₂ env) (fun x s₃ => wpAny (model prog w) A (pyIter x) (fun it₂ s₄ =>
         codeAny (model prog w) A (.compStart (lc2 elt x₁ p₁ i₁ x₂ p₂ i₂ scope pos) 1 it₂ acc env) (fun r s' => r = .ok .next ∧ ∃ m, m < n ∧ I m s') s₄)
         (notedBy (model prog w) A env fun e s' => R (.error e) s') s₃) (notedBy (model prog w) A env fun e s' => R (.error e) s') s₂) (notedBy (model prog w) A env fun e s' => R (.error e) s') s₁)
     (notedBy (model prog w) A env fun e s' => R (.error e) s') s)
   (n : Nat) (h : I n s) : codeAny (model prog w) A (.compLoop (lc2 elt x₁ p₁ i₁ x₂ p₂ i₂ scope pos) 0 it acc env) R s := by
 refine codeAny_loop rfl I (fun n s hI => ?_) n h
 show wpAny _ A ((compTurn (lc2 elt x₁ p₁ i₁ x₂ p₂ i₂ scope pos) 0 it acc env).onRaise (fun x => do noteFrame x env; theTreesLotGoes x)) _ _ s
 refine wpAny_noted ?_
 rw [turn0]
 refine wpAny_bind (wpAny_standAt (wpAny_bind (wpAny_mono (turn n s hI) (fun r s₁ h₁ => ?_) fun _ _ h' => h')))
 cases r with
 | none => exact wpAny_pure h₁
 | some v =>
   refine wpAny_bind (wpAny_pure ?_)
   refine wpAny_bind (wpAny_mono h₁ (fun _ s₂ h₂ => wpAny_bind (wpAny_mono h₂ (fun x s₃ h₃ => wpAny_bind (wpAny_standAt ?_)) fun _ _ h' => h')) fun _ _ h' => h')
   rw [hs x]
   refine wpAny_bind (wpAny_pure (wpAny_bind (wpAny_holding (wpAny_mono h₃ (fun it₂ s₄ h₄ => ?_) fun _ _ h' => h'))))
   refine wpAny_bind (wpAny_runOwn (codeAny_mono (show codeAny (model prog w) (A.mark none) _ _ _ from h₄) fun r s' ⟨e, hm⟩ => ?_))
   subst e
   exact wpAny_pure ⟨rfl, hm⟩
theorem loop1 (I : Nat → Shared → Prop)
   (turn : ∀ n s, I n s → wpAny (model prog w) A (pyNext it) (fun r s₁ => match r with
     | none => R (.ok .next) s₁
     | some v => wpAny (model prog w) A (assign (.Name x₂ p₂) env v) (fun _ s₂ => wpAny (model prog w) A (eval elt env) (fun x s₃ => wpAny (model prog w) A (call (.builtin "list.append") [acc, x]) (fun _ s₄ => ∃ m, m < n ∧ I m s₄)
         (notedBy (model prog w) A env fun e s' => R (.error e) s') s₃) (notedBy (model prog w) A env fun e s' => R (.error e) s') s₂) (notedBy (model prog w) A env fun e s' => R (.error e) s') s₁)
     (notedBy (model prog w) A env fun e s' => R (.error e) s') s)
   (n : Nat) (h : I n s) : codeAny (model prog w) A (.compLoop (lc2 elt x₁ p₁ i₁ x₂ p₂ i₂ scope pos) 1 it acc env) R s := by
 refine codeAny_loop rfl I (fun n s hI => ?_) n h
 show wpAny _ A ((compTurn (lc2 elt x₁ p₁ i₁ x₂ p₂ i₂ scope pos) 1 it acc env).onRaise (fun x => do noteFrame x env; theTreesLotGoes x)) _ _ s
 refine wpAny_noted ?_
 rw [turn1]
 refine wpAny_bind (wpAny_standAt (wpAny_bind (wpAny_mono (turn n s hI) (fun r s₁ h₁ => ?_) fun _ _ h' => h')))
 cases r with
 | none => exact wpAny_pure h₁
 | some v =>
   refine wpAny_bind (wpAny_pure ?_)
   refine wpAny_bind (wpAny_mono h₁ (fun _ s₂ h₂ => wpAny_bind (wpAny_bind (wpAny_mono h₂ (fun x s₃ h₃ => wpAny_bind (wpAny_mono h₃ (fun _ s₄ h₄ => wpAny_pure (wpAny_pure ⟨rfl, h₄⟩)) fun _ _ h' => h')) fun _ _ h' => h'))) fun _ _ h' => h')
theorem start1 (h0 : codeAny (model prog w) A (.compLoop (lc2 elt x₁ p₁ i₁ x₂ p₂ i₂ scope pos) 1 it acc env) R s)
   (h : wpAny (model prog w) A (pyIter it) (fun it' s' => codeAny (model prog w) A (.compLoop (lc2 elt x₁ p₁ i₁ x₂ p₂ i₂ scope pos) 1 it' acc env) R s') (notedBy (model prog w) A env fun x s' => R (.error x) s') s) :
   codeAny (model prog w) A (.compStart (lc2 elt x₁ p₁ i₁ x₂ p₂ i₂ scope pos) 1 it acc env) R s := by
 refine codeAny_of_tree ?_
 show wpAny _ _ ((compStart (lc2 elt x₁ p₁ i₁ x₂ p₂ i₂ scope pos) 1 it acc env).onRaise (fun x => do noteFrame x env; standAt theWindowsPlace)) _ _ s
 refine wpAny_notedAt ?_
 unfold compStart
 show wpAny _ _ (ask >>= _) _ _ s
 refine wpAny_bind (wpAny_askSetting (wpAny_ite ?_))
 split
 · first
     | exact wpAny_bind (wpAny_pure (wpAny_pure (And.intro rfl h0)))
     | exact wpAny_pure (And.intro rfl h0)
 · refine wpAny_bind (wpAny_rule ?_)
   show wpAny _ _ (do standAt i₂.pos; again (.compLoop _ 1 (← pyIter it) acc env)) _ _ s
   exact wpAny_bind (wpAny_standAt (wpAny_bind (wpAny_mono h (fun it' s' h' => wpAny_pure ⟨rfl, h'⟩) fun _ _ e => e)))
end
section
variable {prog : Program} {w : World} {A : Around} {E : Value → Shared → Prop} {env : Env} {α β : Type}
structure Turns2 (prog : Program) (w : World) (A : Around) (env : Env) (elt : Expr) (x₁ x₂ : Str) (i₂ : Expr) (scope : Scope) (cl : List (Str × Addr)) (R : Rel α) (R' : Rel β) (xss : List (List α)) (f : Nat → α → β) (wr : List Addr) (n : Nat) (P : Nat → Value → Prop) (s₂ : Shared) : Prop where
 len : xss.length = n
 small : (xss.map List.length).sum ≤ 1000
 src : ∀ i v xs C s₃ m₃ (E' : Value → Shared → Prop), xss[i]? = some xs → P i v → s₂.heap.objs.size ≤ C → KeepNot wr s₂.heap s₃.heap → s₂.heap.objs.size ≤ s₃.heap.objs.size → Sm s₂ s₃ → s₃.heap.Ns C m₃ → m₃ x₁ = some v →
   wpAny (model prog w) A (eval i₂ (compEnvC scope cl C env)) (fun y s₄ => Up s₃ s₄ ∧ (RL R).r (fun a => s₃.heap.objs.size ≤ a) s₄.heap y xs) E' s₃
 turn : ∀ (i : Nat) v xs (j : Nat) u a C s₃ m₃ (E' : Value → Shared → Prop), xss[i]? = some xs → P i v → xs[j]? = some a → s₂.heap.objs.size ≤ C → KeepNot wr s₂.heap s₃.heap → s₂.heap.objs.size ≤ s₃.heap.objs.size → Sm s₂ s₃ → s₃.heap.Ns C m₃ → m₃ x₁ = some v → m₃ x₂ = some u → R.r All s₃.heap u a →
   wpAny (model prog w) A (eval elt (compEnvC scope cl C env)) (fun y s₄ => Up s₃ s₄ ∧ R'.r (fun a => s₃.heap.objs.size ≤ a) s₄.heap y (f i a)) E' s₃
noncomputable def outOf (xss : List (List α)) (f : Nat → α → β) (i : Nat) : List β := ((xss.getD i []).map (f i))
noncomputable def outsTo (xss : List (List α)) (f : Nat → α → β) (i : Nat) : List β := (List.range i).flatMap (outOf xss f)
theorem outsTo_succ (xss : List (List α)) (f : Nat → α → β) (i : Nat) : outsTo xss f (i + 1) = outsTo xss f i ++ outOf xss f i := by
 unfold outsTo
 rw [List.range_succ, List.flatMap_append]
 simp
theorem outsTo_le (xss : List (List α)) (f : Nat → α → β) : ∀ i, i ≤ xss.length → (outsTo xss f i).length + ((xss.drop i).map List.length).sum = (xss.map List.length).sum
 | 0, _ => by simp [outsTo]
 | i + 1, h => by
   have ih := outsTo_le xss f i (by lia)
   rw [outsTo_succ, List.length_append]
   have e : xss.drop i = xss[i] :: xss.drop (i + 1) := List.drop_eq_getElem_cons (by lia)
   have e2 : (outOf xss f i).length = xss[i].length := by
     unfold outOf
     rw [List.length_map, List.getD_eq_getElem?_getD, List.getElem?_eq_getElem (by lia)]; rfl
   rw [e, List.map_cons, List.sum_cons] at ih
   lia
noncomputable def Comp2Goal (prog : Program) (w : World) (A : Around) (env : Env) (elt : Expr) (x₁ x₂ : Str) (i₂ : Expr) (scope : Scope) (cl : List (Str × Addr)) (α β : Type) (Q : Value → Shared → Prop) (it : Value) (s₂ : Shared) : Prop :=
 ∃ I fp wr n P St, ∃ (R : Rel α) (R' : Rel β) (xss : List (List α)) (f : Nat → α → β), it = .ref I ∧ Walks prog w A I fp wr n P St ∧ A.handled = none ∧ St 0 s₂.heap ∧ (∀ b ∈ fp, b < s₂.heap.objs.size) ∧
     Turns2 prog w A env elt x₁ x₂ i₂ scope cl R R' xss f wr n P s₂ ∧
     (∀ v s', Sm s₂ s' → KeepNot wr s₂.heap s'.heap → s₂.heap.objs.size ≤ s'.heap.objs.size → (RL R').r (fun a => s₂.heap.objs.size ≤ a) s'.heap v (outsTo xss f n) → Q v s')
theorem getElem?_getD {γ : Type} {l : List γ} {i : Nat} {d x : γ} (h : l[i]? = some x) : l.getD i d = x := by rw [List.getD_eq_getElem?_getD, h]; rfl
theorem comp2_block {elt : Expr} {x₁ : Str} {p₁ : Pos} {i₁ : Expr} {x₂ : Str} {p₂ : Pos} {i₂ : Expr} {scope : Scope} {cl : List (Str × Addr)} {pos : Pos} {s₂ : Shared} {I : Addr} {fp wr : List Addr} {n : Nat} {P : Nat → Value → Prop} {R : Rel α} {R' : Rel β} {xss : List (List α)} {f : Nat → α → β}
   {St : Nat → Heap → Prop} (W : Walks prog w A I fp wr n P St) (hh : A.handled = none) {RR : Value → Addr → Result → Shared → Prop}
   (hcell : ∀ y ∈ scope.names, y.2 ≠ .cell) (hkind : scope.kind = .function) (hx₁ : scope.names.lookup x₁ = some .local) (hx₂ : scope.names.lookup x₂ = some .local) (hne : x₁ ≠ x₂) (hs : ∀ C x, foldedSetIterable i₂ (compEnvC scope cl C env) x = pure x) (hst : St 0 s₂.heap) (hfp : ∀ b ∈ fp, b < s₂.heap.objs.size)
   (hq : Turns2 prog w A env elt x₁ x₂ i₂ scope cl R R' xss f wr n P s₂)
   (hRR : ∀ D C h' tk m', s₂.heap.get? C = none → C ≠ D → s₂.heap.objs.size ≤ D → D < C → C < h'.objs.size → h'.Ns C m' → (∃ vs, h'.PlainList D (List.toArray vs) ∧ ∀ h'', KeepOn (fun a => a ≠ C) h' h'' → Paired (R'.r (fun a => s₂.heap.objs.size ≤ a) h'') vs (outsTo xss f n)) →
     KeepNot wr s₂.heap h' → RR (.ref D) C (.ok .next) { s₂ with heap := h', toks := tk }) :
   wpAny (model prog w) A (newList []) (fun acc s₃ => wpAny (model prog w) A (newFunctionEnv scope env.globals cl [] env.qual none .none (some env)) (fun cenv s₄ =>
     codeAny (model prog w) A (.compStart (lc2 elt x₁ p₁ i₁ x₂ p₂ i₂ scope pos) 0 (.ref I) acc { cenv with scope := relabel scope env }) (RR acc cenv.locals) s₄) E s₃) E s₂ := by
 refine wpAny_newObj_type (wpAny_newFunctionEnv hcell (by intro y hy; simp at hy) (fun h₁ hns₁ hsb₁ => ?_) hkind)
 dsimp only at hns₁ hsb₁ ⊢
 generalize hH2 : s₂.heap.push { cls := .type "list", dict := none, data := .seq ([] : List Value).toArray } = H2 at hns₁ hsb₁ ⊢
 have hC : H2.objs.size = s₂.heap.objs.size + 1 := by rw [← hH2, Heap.size_push]
 generalize hCn : H2.objs.size = C at *
 generalize hDn : s₂.heap.objs.size = D at *
 have hDC : D ≠ C := by lia
 have hDlt : D < C := by lia
 have below : ∀ b : Nat, b < D → b ≠ C ∧ b ≠ D := fun b hb => by lia
 have hDf : D ∉ fp := fun hm => Nat.lt_irrefl _ (hfp _ hm)
 have hCf : C ∉ fp := fun hm => by have := ltN (hfp _ hm); lia
 have hCw : C ∉ wr := fun h => hCf (W.sub _ h)
 have hDw : D ∉ wr := fun h => hDf (W.sub _ h)
 have hlt₂ : ∀ {b : Addr} {o : Obj}, s₂.heap.get? b = some o → b < D := fun e => hDn ▸ Heap.lt_size e
 have old : ∀ b o, s₂.heap.get? b = some o → h₁.get? b = some o := fun b o e => hsb₁.extBut b o (below b (hlt₂ e)).1 (Heap.get?_push_of_some _ (hH2 ▸ Heap.get?_push_of_some _ e))
 have hacc : h₁.PlainList D #[] := ⟨_, hsb₁.extBut _ _ hDC (Heap.get?_push_of_some _ (hH2 ▸ hDn ▸ Heap.get?_push_size _ rfl))⟩
 have hst₁ : St 0 h₁ := W.frame _ _ _ hst fun b _ o e => old b o e
 have hs₁ : h₁.objs.size = C + 1 := by rw [hsb₁.1, Heap.size_push, hCn]
 have hwr : ∀ b : Nat, b ∈ wr → b < D := fun b hb => hfp b (W.sub b hb)
 have hle := outsTo_le xss f
 have hsm := hq.small
 have loop : ∀ s₃ : Shared, s₃ = { s₂ with heap := h₁, toks := s₂.toks + ([] : List (Str × Value)).length } →
     codeAny (model prog w) A (.compLoop (lc2 elt x₁ p₁ i₁ x₂ p₂ i₂ scope pos) 0 (.ref I) (.ref D) (compEnvC scope cl C env)) (RR (.ref D) C) s₃ := by
   rintro s₃ rfl
   refine loop0
     (fun k s' => ∃ h' tk m' i, ∃ vs : List Value, s' = { s₂ with heap := h', toks := tk } ∧ St i h' ∧ h'.PlainList D (List.toArray vs) ∧ h'.Ns C m' ∧ i ≤ n ∧ k = n + 1 - i ∧
       C < h'.objs.size ∧ (∀ h'', KeepOn (fun a => C < a) h' h'' → Paired (R'.r (fun a => C < a) h'') vs (outsTo xss f i)) ∧ KeepNot wr s₂.heap h') (hs C) ?_ (n + 1)
     ⟨h₁, _, _, 0, [], rfl, hst₁, hacc, hns₁, Nat.zero_le _, rfl, by rw [hs₁]; exact Nat.lt_succ_self _, fun _ _ => by simpa [outsTo] using Paired.nil, fun b o _ e => old b o e⟩
   intro k s' zzM8_78_2
   refine el_EEEEEAAAAAAAA zzM8_78_2 ?_; clear zzM8_78_2; intro H tk m' i vs zz0 hst' hacc' hn' hi zz1 hCs hF hk
   obtain rfl := zz0
   obtain rfl := zz1
   by_cases hlt : i < n
   · refine W.item i _ _ _ hlt hst' fun v h₂ tk₂ hPv hst₂ hk₂ => ?_
     refine wpAny_assign_Name (wpAny_storeName_local (lookup_relabel_local hx₁) (hn'.at' fun o e => hk₂ _ o hCw e) (fun h₃ hn₃ hs₃ => ?_) (by simp [compEnvC, relabel, hkind]))
     have up₃ : ∀ b o, b ≠ C → b ∉ wr → H.get? b = some o → h₃.get? b = some o := fun b o hbC hbf e => hs₃.extBut b o hbC (hk₂ b o hbf e)
     have hst₃ : St (i + 1) h₃ := W.frame _ _ _ hst₂ fun b hb o e => hs₃.extBut b o (fun h => hCf (by have h' : b = C := h; rw [← h']; exact hb)) e
     have hk₃ : KeepNot wr s₂.heap h₃ := fun b o hb e => up₃ b o (below b (hlt₂ e)).1 hb (hk b o hb e)
     have hC₃ : C < h₃.objs.size := hn₃.lt
     have hacc₃ : h₃.PlainList D (List.toArray vs) := hacc'.at fun o e => up₃ _ o hDC hDw e
     refine el_E (show ∃ xs, xss[i]? = some xs from ⟨xss[i]'(by rw [hq.len]; exact hlt), List.getElem?_eq_getElem _⟩) ?_; intro xs hxs
     have hmx : (fun x => if x = x₁ then some v else m' x) x₁ = some v := by simp
     refine wpAny_mono (hq.src i v xs C _ _ _ hxs hPv (by rw [hDn]; lia) hk₃ (by rw [hDn]; show D ≤ h₃.objs.size; lia) (.of h₃ _) hn₃ hmx) (fun xv s₄ h₄ => ?_) fun _ _ e => e
     refine el_AEEAAA h₄ ?_; try clear h₄; intro u₄ ax us zz2 hax hpl hp
     obtain rfl := zz2
     have hax' : h₃.objs.size ≤ ax := hax
     have k₄ : Keep h₃ s₄.heap := u₄.keep
     have hsz₄ : h₃.objs.size ≤ s₄.heap.objs.size := u₄.size
     have est₄ := (show Sm s₂ s₄ from ⟨u₄.st.gens, u₄.st.drawn, u₄.st.os⟩).eq
     have hul : us.length = xs.length := Paired.length hp
     have hl := hpl.isList
     have hax₄ : ax < s₄.heap.objs.size := by obtain ⟨_, e, _⟩ := hl; exact Heap.lt_size e
     refine wpAny_pyIter_list hl ?_
     have hn₄ := hn₃.keeps k₄
     have hacc₄ : s₄.heap.PlainList D (List.toArray vs) := hacc₃.at fun o e => k₄ _ o e
     generalize hI2 : s₄.heap.objs.size = I2 at *
     have hI2C : I2 ≠ C := by lia
     have hI2D : I2 ≠ D := by lia
     have haxI2 : ax ≠ I2 := Nat.ne_of_lt hax₄
     have haxC : ax ≠ C := by have := ltN (Nat.lt_of_lt_of_le hC₃ hax'); exact Nat.ne_of_gt this
     have haxD : ax ≠ D := Nat.ne_of_gt (Nat.lt_trans hDlt (Nat.lt_of_lt_of_le hC₃ hax'))
     have W2 := Walks.list (prog := prog) (w := w) hh I2 ax haxI2 (List.toArray us)
     have inner : ∀ s₅ : Shared, s₅ = { s₄ with heap := s₄.heap.push { cls := .type "list_iterator", data := .fields #[.ref ax, .int 0 0] } } →
         codeAny (model prog w) A (.compLoop (lc2 elt x₁ p₁ i₁ x₂ p₂ i₂ scope pos) 1 (.ref I2) (.ref D) (compEnvC scope cl C env))
           (fun r s' => r = .ok .next ∧ ∃ mm, mm < n + 1 - i ∧ ∃ h' tk m' i, ∃ vs : List Value, s' = { s₂ with heap := h', toks := tk } ∧ St i h' ∧ h'.PlainList D (List.toArray vs) ∧ h'.Ns C m' ∧ i ≤ n ∧ mm = n + 1 - i ∧
             C < h'.objs.size ∧ (∀ h'', KeepOn (fun a => C < a) h' h'' → Paired (R'.r (fun a => C < a) h'') vs (outsTo xss f i)) ∧ KeepNot wr s₂.heap h') s₅ := by
       rintro s₅ rfl
       refine loop1
         (fun k s' => ∃ h' tk m' j, ∃ ws : List Value, s' = { s₂ with heap := h', toks := tk } ∧ (h'.IsListIter I2 ax j ∧ h'.IsList ax (List.toArray us)) ∧ h'.PlainList D (List.toArray (vs ++ ws)) ∧ h'.Ns C m' ∧ m' x₁ = some v ∧ j ≤ xs.length ∧ k = xs.length + 1 - j ∧
           I2 < h'.objs.size ∧ (∀ h'', KeepOn (fun a => C < a ∧ a ≠ I2) h' h'' → Paired (R'.r (fun a => C < a) h'') (vs ++ ws) (outsTo xss f i ++ (outOf xss f i).take j)) ∧
           (∀ b o, b ≠ C → b ≠ D → b ≠ I2 → s₄.heap.get? b = some o → h'.get? b = some o)) ?_ (xs.length + 1)
         ⟨_, _, _, 0, [], by rw [est₄], ⟨⟨_, hI2 ▸ Heap.get?_push_size _ rfl, rfl, rfl⟩, hl.push _⟩, by rw [List.append_nil]; exact hacc₄.at fun o e => Heap.get?_push_of_some _ e, hn₄.push _, hmx, Nat.zero_le _, rfl, by rw [Heap.size_push, hI2]; exact Nat.lt_succ_self _, fun h'' kk => ?_,
           fun b o _ _ _ e => Heap.get?_push_of_some _ e⟩
       · intro k s' zzM8_120_2
         refine el_EEEEEAAAAAAAAA zzM8_120_2 ?_; clear zzM8_120_2; intro G tg mg j ws zz3 hst2 haccG hnG hmv hj zz4 hI2s hFG hkG
         obtain rfl := zz3
         obtain rfl := zz4
         have back : ∀ b o, b ∉ wr → s₂.heap.get? b = some o → G.get? b = some o := fun b o hb e => by
           have h1 := below b (hlt₂ e)
           refine hkG b o h1.1 h1.2 (fun q => ?_) (k₄ b o (hk₃ b o hb e))
           have h2 := ltN (hlt₂ e)
           have h3 : b = I2 := q
           lia
         by_cases hjl : j < xs.length
         · have hju : j < (List.toArray us).size := by rw [List.size_toArray, hul]; exact hjl
           refine W2.item j _ _ _ hju hst2 fun uv g₂ tg₂ hPu hstu hku => ?_
           refine wpAny_assign_Name (wpAny_storeName_local (lookup_relabel_local hx₂) (hnG.at' fun o e => hku _ o (by simpa using Ne.symm hI2C) e) (fun g₃ hn₅ hs₅ => ?_) (by simp [compEnvC, relabel, hkind]))
           have upg : ∀ b o, b ≠ C → b ≠ I2 → G.get? b = some o → g₃.get? b = some o := fun b o hbC hbI e => hs₅.extBut b o hbC (hku b o (by simpa using hbI) e)
           refine el_E (show ∃ a, xs[j]? = some a from ⟨xs[j], List.getElem?_eq_getElem hjl⟩) ?_; intro a ha
           refine el_EA (Paired.get hp ha) ?_; intro uv' huv' hR
           have hPu' : (List.toArray us)[j]? = some uv := hPu
           have : uv' = uv := by
             rw [List.getElem?_toArray, huv'] at hPu'
             exact Option.some.inj hPu'
           subst this
           have hRu : R.r All g₃ uv' a := by
             refine R.mono (fun _ _ => trivial) (R.up (ok := fun b => h₃.objs.size ≤ b) (fun b o hb e => ?_) hR)
             have h1 : b < I2 := hI2 ▸ Heap.lt_size e
             have h2 : C < b := Nat.lt_of_lt_of_le hC₃ hb
             exact upg b o (Nat.ne_of_gt h2) (Nat.ne_of_lt h1) (hkG b o (Nat.ne_of_gt h2) (Nat.ne_of_gt (Nat.lt_trans hDlt h2)) (Nat.ne_of_lt h1) e)
           have hkg₃ : KeepNot wr s₂.heap g₃ := fun b o hb e => by
             have h1 := below b (hlt₂ e)
             have h2 := ltN (hlt₂ e)
             exact upg b o h1.1 (fun q => by have h3 : b = I2 := q; lia) (back b o hb e)
           have hC5 : C < g₃.objs.size := hn₅.lt
           have hmx5 : (fun x => if x = x₂ then some uv' else mg x) x₁ = some v := by simp [hne, hmv]
           refine wpAny_mono (hq.turn i v xs j uv' a C _ _ _ hxs hPv ha (by rw [hDn]; lia) hkg₃ (by rw [hDn]; show D ≤ g₃.objs.size; lia) (.of g₃ _) hn₅ hmx5 (by simp) hRu) (fun y s₆ h₆ => ?_) fun _ _ e => e
           refine el_A h₆ ?_; try clear h₆; intro u₆ hR6
           have k₆ : Keep g₃ s₆.heap := u₆.keep
           have est₆ := (show Sm s₂ s₆ from ⟨u₆.st.gens, u₆.st.drawn, u₆.st.os⟩).eq
           have hacc6 : s₆.heap.PlainList D (List.toArray (vs ++ ws)) := haccG.at fun o e => k₆ _ o (upg D o hDC (Ne.symm hI2D) e)
           have hnow := hFG G (KeepOn.refl _ _)
           have hlen := Paired.length hnow
           have hlo := hle i (by rw [hq.len]; exact hi)
           have hdrop : xs.length ≤ ((xss.drop i).map List.length).sum := by
             have hil : i < xss.length := by rw [hq.len]; exact hlt
             rw [List.drop_eq_getElem_cons hil, List.map_cons, List.sum_cons]
             have : xss[i] = xs := by rw [List.getElem?_eq_getElem hil] at hxs; exact Option.some.inj hxs
             rw [this]; lia
           have hout : (outOf xss f i).length = xs.length := by unfold outOf; rw [getElem?_getD hxs, List.length_map]
           have hszl : (List.toArray (vs ++ ws)).size ≤ sizeLine := by
             rw [List.size_toArray, hlen, List.length_append, List.length_take, sizeLine_eq]
             lia
           refine append_at (hsz := hszl) hacc6.choose_spec fun h₇ hs₇ hD₇ => ?_
           have hI6 : I2 < g₃.objs.size := by
             refine el_A hstu ?_; try clear hstu; intro zz5 _
             refine el_EA zz5 ?_; clear zz5; intro o eo _
             exact Heap.lt_size (hs₅.extBut I2 o hI2C eo)
           refine ⟨xs.length + 1 - (j + 1), by lia, h₇, s₆.toks, _, j + 1, ws ++ [y], by rw [est₆], ⟨?_, ?_⟩, ⟨_, by rw [List.push_toArray, List.append_assoc] at hD₇; exact hD₇⟩, (hn₅.keeps k₆).sameBut hs₇ (Ne.symm hDC), hmx5, hjl, rfl,
             by rw [hs₇.1]; exact Nat.lt_of_lt_of_le hI6 u₆.size, fun h'' kk => ?_, fun b o b1 b2 b3 e => hs₇.extBut b o b2 (k₆ b o (upg b o b1 b3 (hkG b o b1 b2 b3 e)))⟩
           · refine el_EA (hstu.1) ?_; intro o eo r
             exact ⟨o, hs₇.extBut I2 o hI2D (k₆ I2 o (hs₅.extBut I2 o hI2C eo)), r⟩
           · refine el_EA (hst2.2) ?_; intro o eo r
             exact ⟨o, hs₇.extBut ax o haxD (k₆ ax o (upg ax o haxC haxI2 eo)), r⟩
           · have e1 : (outOf xss f i).take (j + 1) = (outOf xss f i).take j ++ [f i a] := by
               rw [List.take_add_one]
               congr 1
               unfold outOf
               rw [getElem?_getD hxs, List.getElem?_map, ha]; rfl
             rw [e1, ← List.append_assoc, ← List.append_assoc]
             have hD7 : ∀ b : Nat, C < b → b ≠ D := fun b hb => by lia
             refine Paired.snoc (hFG h'' fun b o hb e => kk b o hb (hs₇.extBut b o (hD7 b hb.1) (k₆ b o (upg b o (Nat.ne_of_gt hb.1) hb.2 e)))) ?_
             · refine R'.mono (fun b (hb : g₃.objs.size ≤ b) => Nat.lt_of_lt_of_le hC5 hb) (R'.up (fun b o hb e => ?_) hR6)
               have hb' : C < b := Nat.lt_of_lt_of_le hC5 hb
               exact kk b o ⟨hb', Nat.ne_of_gt (Nat.lt_of_lt_of_le hI6 hb)⟩ (hs₇.extBut b o (hD7 b hb') e)
         · obtain rfl : j = (List.toArray us).size := by rw [List.size_toArray, hul]; lia
           refine W2.done _ _ _ hst2 fun g₂ tg₂ hku => ?_
           have ku : ∀ b o, b ≠ I2 → G.get? b = some o → g₂.get? b = some o := fun b o hb e => hku b o (by simpa using hb) e
           have hn2 := hnG.at' fun o e => ku C o (Ne.symm hI2C) e
           have ltI : ∀ b : Nat, b < D → b ≠ I2 := fun b hb => by lia
           refine ⟨rfl, n + 1 - (i + 1), by lia, g₂, tg₂, mg, i + 1, vs ++ ws, rfl, W.frame _ _ _ hst₃ fun b hb o e => ?_, haccG.at fun o e => ku D o (Ne.symm hI2D) e, hn2, hlt, rfl, hn2.lt, fun h'' kk => ?_, fun b o hb e => ku b o (ltI b (hlt₂ e)) (back b o hb e)⟩
           · have h1 : (b : Nat) < D := hfp b hb
             exact ku b o (ltI b h1) (hkG b o (below b h1).1 (below b h1).2 (ltI b h1) (k₄ b o e))
           · have e2 : (outOf xss f i).take (List.toArray us).size = outOf xss f i := by
               apply List.take_of_length_le
               unfold outOf
               rw [getElem?_getD hxs, List.length_map, List.size_toArray, hul]; exact Nat.le_refl _
             have := hFG h'' fun b o hb e => kk b o hb.1 (ku b o hb.2 e)
             rw [e2] at this
             rw [outsTo_succ]; exact this
       · simpa using hF h'' fun b o hb e => kk b o ⟨hb, Nat.ne_of_lt (hI2 ▸ Heap.lt_size (k₄ b o (up₃ b o (Nat.ne_of_gt hb) (fun q => by have h1 := hwr b q; have h2 := ltN hb; lia) e)) : b < I2)⟩ (Heap.get?_push_of_some _ (k₄ b o (up₃ b o (Nat.ne_of_gt hb) (fun q => by have h1 := hwr b q; have h2 := ltN hb; lia) e)))
     exact start1 (inner _ rfl) (W2.self 0 _ _ _ ⟨⟨_, hI2 ▸ Heap.get?_push_size _ rfl, rfl, rfl⟩, hl.push _⟩ (inner _ rfl))
   · obtain rfl : i = n := Nat.le_antisymm hi (Nat.not_lt.mp hlt)
     refine W.done _ _ _ hst' fun h₂ tk₂ hk₂ => ?_
     have hn₂ := hn'.at' fun o e => hk₂ _ o hCw e
     refine hRR D C h₂ tk₂ m' (Heap.get?_none_of_le (by rw [hDn]; exact Nat.le_of_lt hDlt)) (Ne.symm hDC) (Nat.le_refl _) hDlt hn₂.lt hn₂ ⟨vs, hacc'.at fun o e => hk₂ _ o hDw e, fun h'' kk => ?_⟩ fun b o hb e => hk₂ b o hb (hk b o hb e)
     have := hF h'' fun a o ha e => kk a o (fun q => Nat.lt_irrefl _ (q ▸ ha)) (hk₂ a o (fun q => by have h1 := ltN (hwr a q); have h2 := ltN ha; lia) e)
     exact Paired.imp (fun _ _ => R'.mono fun a ha => Nat.le_of_lt (Nat.lt_trans hDlt ha)) this
 exact codeAny_compStart_list (loop _ rfl) (W.self 0 _ _ _ hst₁ (loop _ rfl))
theorem ListComp2_M {s : Shared} {elt iter : Expr} {x₁ : Str} {p₁ : Pos} {x₂ : Str} {p₂ : Pos} {i₂ : Expr} {scope : Scope} {cl : List (Str × Addr)} {pos : Pos} {Q : Value → Shared → Prop}
   (hclos : closureFor scope env = pure cl) (hcell : ∀ y ∈ scope.names, y.2 ≠ .cell) (hkind : scope.kind = .function)
   (hnames : ∀ y ∈ scope.names, y.2 = .local → scope.names.lookup y.1 = some .local) (hx₁ : scope.names.lookup x₁ = some .local) (hx₂ : scope.names.lookup x₂ = some .local) (hne : x₁ ≠ x₂) (hs : ∀ x, foldedSetIterable iter env x = pure x)
   (hs₂ : ∀ C x, foldedSetIterable i₂ (compEnvC scope cl C env) x = pure x)
   (h : wpAny (model prog w) A (eval iter env) (fun xv s₁ => wpAny (model prog w) A (pyIter xv) (Comp2Goal prog w A env elt x₁ x₂ i₂ scope cl α β Q) E s₁) E s) :
   wpAny (model prog w) A (eval (.ListComp elt [⟨.Name x₁ p₁, iter, [], 0⟩, ⟨.Name x₂ p₂, i₂, [], 0⟩] scope pos) env) Q E s := by
 rw [eval_ListComp]
 refine wpAny_comprehension_free (use := none) rfl hs hclos hkind hnames (wpAny_mono h (fun xv s₁ h₁ => wpAny_mono h₁ (fun it s₂ h₂ => ?_) fun _ _ e => e) fun _ _ e => e)
 refine el_EEEEEEEEEEAAAAAA h₂ ?_; try clear h₂; intro I fp wr n P St R R' xss f zz6 W hh hst hfp hq hQ
 obtain rfl := zz6
 refine comp2_block (RR := fun acc C => compPost (model prog w) A E none Q acc C) W hh hcell hkind hx₁ hx₂ hne hs₂ hst hfp hq ?_
 intro D C h' tk m' hC hCD hD hDC hCs hn ⟨vs, hl, hp⟩ hk
 refine ⟨m', hn, fun h'' hs'' => hQ (.ref D) _ (.of h'' tk) (fun b o hb e => hs''.extBut b o (by rintro rfl; rw [hC] at e; cases e) (hk b o hb e)) (by rw [hs''.1]; exact Nat.le_trans hD (Nat.le_of_lt (Nat.lt_trans hDC hCs))) ⟨D, vs, rfl, hD, hl.at fun o e => hs''.extBut D o hCD.symm e, hp h'' fun a o ha e => hs''.extBut a o ha e⟩⟩
end
section
variable {prog : Program} {w : World} {A : Around} {E : Value → Shared → Prop} {s : Shared} {env : Env}
theorem If_t {test : Expr} {body orelse : List Stmt} {pos : Pos} {Q : Flow → Shared → Prop}
   (h : wpAny (model prog w) A (PySem.isTrue test env (eval test env)) (fun b s₂ => b = true ∧ wpAny (model prog w) A (execs body env) Q E s₂) E s) :
   wpAny (model prog w) A (exec (Stmt.If test body orelse pos) env) Q E s :=
 wpAny_If (wpAny_mono h (fun b s₂ ⟨e, h⟩ => by subst e; exact h) fun _ _ x => x)
theorem If_f {test : Expr} {body orelse : List Stmt} {pos : Pos} {Q : Flow → Shared → Prop}
   (h : wpAny (model prog w) A (PySem.isTrue test env (eval test env)) (fun b s₂ => b = false ∧ wpAny (model prog w) A (execs orelse env) Q E s₂) E s) :
   wpAny (model prog w) A (exec (Stmt.If test body orelse pos) env) Q E s :=
 wpAny_If (wpAny_mono h (fun b s₂ ⟨e, h⟩ => by subst e; exact h) fun _ _ x => x)
theorem truthy_l {l : Addr} {vs : List Value} {Q : Bool → Shared → Prop} (hl : s.heap.PlainList l (List.toArray vs)) (hz : vs.length ≤ 1000) (h : ∀ s', Up s s' → Q (!vs.isEmpty) s') : wpAny (model prog w) A (truthy (.ref l)) Q E s := by
 refine wpAny_truthy_list hl.isList (by rw [List.size_toArray]; lia) ?_
 have e : (List.toArray vs).isEmpty = vs.isEmpty := by cases vs <;> rfl
 rw [e]
 exact h _ (Up.toks _)
theorem isTrue_v {e : Expr} {Q : Bool → Shared → Prop} (he : PySem.isTrue e env (eval e env) = do
       let v ← eval e env
       standAt e.pos
       holding [v] (truthy v)) (h : wpAny (model prog w) A (eval e env) (fun v s₁ => wpAny (model prog w) A (truthy v) Q E s₁) E s) :
 wpAny (model prog w) A (PySem.isTrue e env (eval e env)) Q E s := wpAny_isTrue_value h he
theorem newL {vs : List Value} {Q : Value → Shared → Prop} (hz : vs.length ≤ 1000) (h : ∀ D s', Up s s' → s.heap.objs.size ≤ D → s'.heap.PlainList D (List.toArray vs) → Q (.ref D) s') : wpAny (model prog w) A (newList vs) Q E s := by
 refine wpAny_newList ?_ (by rw [sizeLine_eq]; lia)
 exact h _ _ (Up.push _ _) (Nat.le_refl _) ⟨_, Heap.get?_push_size _ rfl⟩
theorem addL {l b : Addr} {vs ws : List Value} {Q : Value → Shared → Prop} (hl : s.heap.PlainList l (List.toArray vs)) (hb : s.heap.PlainList b (List.toArray ws)) (hz : vs.length + ws.length ≤ 1000)
   (h : ∀ D s', Up s s' → s.heap.objs.size ≤ D → s'.heap.PlainList D (List.toArray (vs ++ ws)) → Q (.ref D) s') : wpAny (model prog w) A (binaryOp .Add (.ref l) (.ref b)) Q E s := by
 refine el_E hl ?_; try clear hl; intro n e
 refine el_E hb ?_; try clear hb; intro n' e'
 refine PySem.P.add_list e e' (h _ _ (Up.push _ _) (Nat.le_refl _) ⟨0, ?_⟩) (by rw [sizeLine_eq, List.size_toArray, List.size_toArray]; lia)
 rw [Heap.get?_push_size _ rfl, List.append_toArray]
theorem lenL {l : Addr} {vs : List Value} {Q : Value → Shared → Prop} (hl : s.heap.PlainList l (List.toArray vs)) (hz : vs.length ≤ 1000) (h : ∀ t s', Up s s' → Q (.int (vs.length : Nat) t) s') : wpAny (model prog w) A (call (.builtin "len") [.ref l]) Q E s := by
 refine PySem.Calls.call_len_list hl.isList (by rw [List.size_toArray]; lia) ?_
 rw [List.size_toArray]
 exact h _ _ (Up.toks _)
theorem cutL {value : Expr} {lower upper : Option Expr} {p pos : Pos} {Q : Value → Shared → Prop}
   (ht : ∀ o r, letTemporaryGo value o r = pure ())
   (h : wpAny (model prog w) A (eval value env) (fun o s₁ => wpAny (model prog w) A (evalPart lower env) (fun vl s₂ => wpAny (model prog w) A (evalPart upper env) (fun vu s₃ =>
     ∃ l vs lo hi, o = .ref l ∧ s₃.heap.PlainList l (List.toArray vs) ∧ vs.length ≤ 1000 ∧ IsPart vl lo ∧ IsPart vu hi ∧
       ∀ D s', Up s₃ s' → s₃.heap.objs.size ≤ D → s'.heap.PlainList D (slicePick (List.toArray vs) lo hi none) → Q (.ref D) s') E s₂) E s₁) E s) :
   wpAny (model prog w) A (eval (.Subscript value (.Slice lower upper none p) pos) env) Q E s := by
 refine wpAny_Subscript_list_slice (wpAny_mono h (fun o s₁ h₁ => wpAny_mono h₁ (fun vl s₂ h₂ => wpAny_mono h₂ (fun vu s₃ h₃ => ?_) fun _ _ e => e) fun _ _ e => e) fun _ _ e => e) ht
 refine el_EEEEAAAAA h₃ ?_; try clear h₃; intro l vs lo hi zz0 hl hz pl pu hQ
 obtain rfl := zz0
 refine ⟨l, _, lo, hi, rfl, hl.isList, by rw [sizeLine_eq, List.size_toArray]; lia, pl, pu, hQ _ _ ⟨.of _ _, (Keep.push _ _).trans (Keep.push _ _), ?_⟩ (Nat.le_succ _) ⟨0, ?_⟩⟩
 · show _ ≤ ((s₃.heap.push _).push _).objs.size
   rw [Heap.size_push, Heap.size_push]; lia
 · have e1 := Heap.get?_push_size (s₃.heap.push { cls := .type "slice", data := .fields #[vl, vu, .none] }) (o := { cls := .type "list", data := .seq (slicePick (List.toArray vs) lo hi none) }) rfl
   rw [Heap.size_push] at e1
   exact e1
end
theorem Paired.append {α β : Type} {F : α → β → Prop} {l l2 : List α} {r r2 : List β} (p : Paired F l r) (h : Paired F l2 r2) : Paired F (l ++ l2) (r ++ r2) := by
 induction p with
 | nil => exact h
 | cons x _ ih => exact .cons x ih
theorem Paired.take {α β : Type} {F : α → β → Prop} {l : List α} {r : List β} (k : Nat) (p : Paired F l r) : Paired F (l.take k) (r.take k) := by
 induction p generalizing k with
 | nil => cases k <;> exact .nil
 | cons x _ ih => cases k with
   | zero => exact .nil
   | succ k => exact .cons x (ih k)
theorem Paired.drop {α β : Type} {F : α → β → Prop} {l : List α} {r : List β} (k : Nat) (p : Paired F l r) : Paired F (l.drop k) (r.drop k) := by
 induction p generalizing k with
 | nil => cases k <;> exact .nil
 | cons x t ih => cases k with
   | zero => exact .cons x t
   | succ k => exact ih k
section
variable {s s' : Shared} {l : Addr} {its : Array Value} {v : Option Value} {m : Str → Option Value}
theorem plUp (h : s.heap.PlainList l its) (u : Up s s') : s'.heap.PlainList l its := h.at fun _ e => u.keep _ _ e
theorem cellUp (h : s.heap.IsCell l v) (u : Up s s') : s'.heap.IsCell l v := h.keeps u.keep
theorem nsUp (h : s.heap.Ns l m) (u : Up s s') : s'.heap.Ns l m := h.keeps u.keep
end
section
variable {M : Model} {A : Around} {E : Value → Shared → Prop} {s : Shared} {env : Env} {Q : Value → Shared → Prop} {x : Str} {pos : Pos} {v : Value} {mg mb : Str → Option Value} {P : Adr}
theorem n_gl (W : Wd P mg mb s.heap) (hg : env.globals = mainGlobals) (hk : env.scope.kind = .function) (hl : env.kindOf x = some .globalImplicit) (hd : (x == ("__debug__" : Str)) = false) (hv : mg x = some v) (h : Q v s) :
 wpAny M A (eval (.Name x pos) env) Q E s := n_glob (by rw [hg]; exact W.g) hk hl hd hv h
end
noncomputable def ordersN : Nat → List Nat → List (List Nat)
 | 0, _ => [[]]
 | n + 1, rest => (List.range rest.length).flatMap fun k => (ordersN n (rest.take k ++ rest.drop (k + 1))).map fun o => rest.getD k 0 :: o
noncomputable def orders (l : List Nat) : List (List Nat) := ordersN l.length l
theorem ordersN_len : ∀ n l, l.length = n → ∀ o ∈ ordersN n l, o.length = n
 | 0, _, _, o, h => by rw [List.mem_singleton.mp h]; rfl
 | n + 1, l, hl, o, h => by
   unfold ordersN at h
   refine el_EA (List.mem_flatMap.mp h) ?_; intro k hk h
   refine el_EA (List.mem_map.mp h) ?_; intro o' ho' zz1
   obtain rfl := zz1
   have hk' := List.mem_range.mp hk
   rw [List.length_cons, ordersN_len n _ (by simp; lia) o' ho']
theorem sum_const (c : Nat) : ∀ (L : List (List (List Nat))), (∀ x ∈ L, x.length = c) → (L.map List.length).sum = L.length * c
 | [], _ => by simp
 | x :: r, h => by
   rw [List.map_cons, List.sum_cons, sum_const c r fun y hy => h y (.tail _ hy), h x (.head _), List.length_cons, Nat.succ_mul, Nat.add_comm]
noncomputable def fact : Nat → Nat
 | 0 => 1
 | n + 1 => (n + 1) * fact n
theorem ordersN_size : ∀ n l, l.length = n → (ordersN n l).length = fact n
 | 0, _, _ => rfl
 | n + 1, l, hl => by
   unfold ordersN
   rw [List.length_flatMap]
   have e : (List.map (fun k => (List.map (fun o => l.getD k 0 :: o) (ordersN n (List.take k l ++ List.drop (k + 1) l))).length) (List.range l.length)) = (((List.range l.length).map fun k => ordersN n (List.take k l ++ List.drop (k + 1) l)).map List.length) := by
     simp [List.map_map, Function.comp_def]
   rw [e, sum_const (fact n)]
   · rw [List.length_map, List.length_range, hl]; rfl
   · intro x hx
     refine el_EA (List.mem_map.mp hx) ?_; intro k hk zz2
     obtain rfl := zz2
     have hk' := List.mem_range.mp hk
     exact ordersN_size n _ (by simp; lia)
section
variable {prog : Program} {w : World} {A : Around} {E : Value → Shared → Prop} {env : Env} {α β : Type}
theorem comp2_range {R : Rel α} {R' : Rel β} {xss : List (List α)} {f : Nat → α → β} {k : Nat} {a : Int} {s₁ : Shared} {r : Addr} {b : Int} {t u v : Tok} {elt i₂ : Expr} {x₁ x₂ : Str} {scope : Scope} {cl : List (Str × Addr)} {Q : Value → Shared → Prop}
   (hh : A.handled = none) (hr : IsRange s₁.heap r a b 1 t u v) (hsm : Builtin.Range.small a b 1 = true) (hn : Builtin.Range.rangeSize a b 1 = ((k : Nat) : Int)) (hlen : xss.length = k) (hsz : (xss.map List.length).sum ≤ 1000)
   (src : ∀ (i : Nat) xs, xss[i]? = some xs → ∀ t' C s₃ m₃ (E' : Value → Shared → Prop), Up s₁ s₃ → s₁.heap.objs.size ≤ C → s₃.heap.Ns C m₃ → m₃ x₁ = some (.int (a + (i : Int)) t') →
     wpAny (model prog w) A (eval i₂ (compEnvC scope cl C env)) (fun y s₄ => Up s₃ s₄ ∧ (RL R).r (fun a => s₃.heap.objs.size ≤ a) s₄.heap y xs) E' s₃)
   (turn : ∀ (i : Nat) xs (j : Nat) u a', xss[i]? = some xs → xs[j]? = some a' → ∀ t' C s₃ m₃ (E' : Value → Shared → Prop), Up s₁ s₃ → s₁.heap.objs.size ≤ C → s₃.heap.Ns C m₃ → m₃ x₁ = some (.int (a + (i : Int)) t') → m₃ x₂ = some u → R.r All s₃.heap u a' →
     wpAny (model prog w) A (eval elt (compEnvC scope cl C env)) (fun y s₄ => Up s₃ s₄ ∧ R'.r (fun a => s₃.heap.objs.size ≤ a) s₄.heap y (f i a')) E' s₃)
   (fin : ∀ v s', Up s₁ s' → (RL R').r (fun a => s₁.heap.objs.size ≤ a) s'.heap v (outsTo xss f k) → Q v s') :
   wpAny (model prog w) A (pyIter (.ref r)) (Comp2Goal prog w A env elt x₁ x₂ i₂ scope cl α β Q) E s₁ := by
 refine wpAny_pyIter_range hr hsm ?_
 have hup : ∀ {h : Heap} {o : Obj}, KeepNot [s₁.heap.objs.size] (s₁.heap.push o) h → Keep s₁.heap h := fun k b o e => k b o (by simpa using Nat.ne_of_lt (Heap.lt_size e)) (Heap.get?_push_of_some _ e)
 refine ⟨s₁.heap.objs.size, [s₁.heap.objs.size], [s₁.heap.objs.size], k, _, _, R, R', xss, f, rfl, LCg.range_walks hh a k, hh, by show IsRangeIter _ _ _ _ _; rw [hn]; simpa using Heap.get?_push_size _ rfl, fun b hb => ?_,
   ⟨hlen, hsz, fun i v xs C s₃ m₃ E' hb hP hC hk hs st hn' hm => ?_, fun i v xs j u a' C s₃ m₃ E' hb hP ha hC hk hs st hn' hm hm' hR => ?_⟩, fun v s' st hk hs hr => fin v s' ⟨⟨st.gens, st.drawn, st.os⟩, hup hk, by rw [Heap.size_push] at hs; lia⟩ ((RL R').mono (fun a ha => by rw [Heap.size_push] at ha; lia) hr)⟩
 · rw [List.mem_singleton.mp hb, Heap.size_push]; exact Nat.lt_succ_self _
 · refine el_E hP ?_; try clear hP; intro t' zz0
   obtain rfl := zz0
   rw [Heap.size_push] at hC hs
   exact src i xs hb t' C s₃ m₃ E' ⟨⟨st.gens, st.drawn, st.os⟩, hup hk, by lia⟩ (Nat.le_trans (Nat.le_succ _) hC) hn' hm
 · refine el_E hP ?_; try clear hP; intro t' zz1
   obtain rfl := zz1
   rw [Heap.size_push] at hC hs
   exact turn i xs j u a' hb ha t' C s₃ m₃ E' ⟨⟨st.gens, st.drawn, st.os⟩, hup hk, by lia⟩ (Nat.le_trans (Nat.le_succ _) hC) hn' hm hm' hR
end
theorem outs_orders (n : Nat) (rest : List Nat) : outsTo ((List.range rest.length).map fun k => ordersN n (rest.take k ++ rest.drop (k + 1))) (fun k o => rest.getD k 0 :: o) rest.length = ordersN (n + 1) rest := by
 unfold outsTo
 rw [ordersN, List.flatMap_def, List.flatMap_def]
 congr 1
 apply List.map_congr_left
 intro k hk
 have hk' := List.mem_range.mp hk
 unfold outOf
 rw [getElem?_getD (x := ordersN n (rest.take k ++ rest.drop (k + 1)))]
 rw [List.getElem?_map, List.getElem?_range hk']; rfl
section
variable {prog : Program} {w : World} {P : Adr} {mg mb : Str → Option Value}
theorem c_orders : ∀ (n : Nat) {A : Around} {s : Shared} {va : Value} {rest : List Nat}, A.depth + n < recursionLimit → A.handled = none → Wd P mg mb s.heap → (RL RC).r All s.heap va rest → rest.length = n → n ≤ 4 →
   codeAny (model prog w) A (.call (.ref P.orders) ⟨[va], []⟩) (RetD (RL (RL RC)) (ordersN n rest) s) s := by
 intro n
 induction n with
 | zero =>
   intro A s va rest hroom hh W hr hlen h4
   refine enterZ (binds := [(Str.ofString "rest", va)]) (by lia) W.dorders W.lim (by intros; rfl) (by rfl) (by rfl) ?_ rfl rfl rfl
   intro L cd s₁ n F u
   refine wpAny_execs_cons ?_
   refine el_EEAAA ((RL RC).at hr u) ?_; intro ax vs zz2 _ hpl hp
   obtain rfl := zz2
   have hvl := Paired.length hp
   have : vs = [] := List.eq_nil_of_length_eq_zero (by lia)
   subst this
   exists If_t ?_
   exists wpAny_isTrue_Not ?_
   exists isTrue_v (by trivial) ?_
   exists n_cell F (by trivial) (by trivial) (by trivial) (by trivial) (by trivial) ?_
   exists truthy_l hpl (by simp) fun s₂ u₂ => ?_
   exists ⟨(by trivial), ?_⟩
   refine wpAny_execs_cons ?_
   exists wpAny_Return_some ?_
   exists List_ ?_
   exists sp_more (by trivial) ?_
   exists List_ ?_
   exists spliced_none ?_
   exists newL (by simp) fun D s₃ u₃ hD hl => ?_
   exists spliced_none ?_
   exists newL (by simp) fun D' s₄ u₄ hD' hl' => ?_
   have hs := u₂.size
   have hs' := u₃.size
   have ht := F.top
   refine retD_ (R := RL (RL RC)) (F.pass (u₂.trans (u₃.trans u₄))) (u.trans (u₂.trans (u₃.trans u₄))).st ⟨D', _, rfl, by lia, hl', .cons ⟨D, _, rfl, by lia, hl.at fun o e => u₄.keep _ o e, .nil⟩ .nil⟩
 | succ n ih =>
   intro A s va rest hroom hh W hr hlen h4
   refine enterZ (binds := [(Str.ofString "rest", va)]) (by lia) W.dorders W.lim (by intros; rfl) (by rfl) (by rfl) ?_ rfl rfl rfl
   intro L cd s₁ n₁ F u
   refine wpAny_execs_cons ?_
   refine el_EEAAA ((RL RC).at hr u) ?_; intro ax vs zz3 _ hpl hp
   obtain rfl := zz3
   have hvl := Paired.length hp
   exists If_f ?_
   exists wpAny_isTrue_Not ?_
   exists isTrue_v (by trivial) ?_
   exists n_cell F (by trivial) (by trivial) (by trivial) (by trivial) (by trivial) ?_
   exists truthy_l hpl (by lia) fun s₂ u₂ => ?_
   exists ⟨?_, ?_⟩
   · cases vs with
     | nil => simp at hvl; lia
     | cons _ _ => rfl
   refine wpAny_execs_nil ?_
   refine wpAny_execs_cons ?_
   exists wpAny_Return_some ?_
   have F₂ := F.pass u₂
   have W₂ := (W.up u).up u₂
   exists ListComp2_M (α := List Nat) (β := List Nat) (by trivial) (by decide) (by trivial) (by decide) (by trivial) (by trivial) (by decide) (fun _ => (by trivial)) (fun _ _ => (by trivial)) ?_
   exists wpAny_Call_NameR ?_
   exists n_bi W₂ (by trivial) (by trivial) (by trivial) (by trivial) (by trivial) (by decide) (W.no "range" (by decide)) PyProof.Rows.boot_range ?_
   exists cw_type (by trivial) ?_
   exists sp_more (by trivial) ?_
   exists wpAny_Call_NameR ?_
   exists n_bi W₂ (by trivial) (by trivial) (by trivial) (by trivial) (by trivial) (by decide) (W.no "len" (by decide)) boot_len ?_
   exists cw_bi (by trivial) ?_
   exists sp_more (by trivial) ?_
   exists n_cell F₂ (by trivial) (by trivial) (by trivial) (by trivial) (by trivial) ?_
   exists spliced_none ?_
   exists lenL (plUp hpl u₂) (by lia) fun t s₃ u₃ => ?_
   exists spliced_none ?_
   exists range_one fun r s₄ t₁ t₂ t₃ u₄ hrg => ?_
   have us : Up s₁ s₄ := u₂.trans (u₃.trans u₄)
   have F₄ := F.pass us
   have W₄ := (W.up u).up us
   have hcell := (F₄.cs (Str.ofString "rest") _ (by trivial)).1
   rw [hvl] at hrg
   exists comp2_range (R := RL RC) (R' := RL RC) (xss := (List.range rest.length).map fun k => ordersN n (rest.take k ++ rest.drop (k + 1))) (f := fun k o => rest.getD k 0 :: o) (k := rest.length) (deep_none hh _) hrg (small_nat (by lia)) rangeSize_nat (by simp) ?_ ?_ ?_ ?_
   · rw [sum_const (fact n), List.length_map, List.length_range, hlen]
     · have : n = 0 ∨ n = 1 ∨ n = 2 ∨ n = 3 := by lia
       rcases this with rfl | rfl | rfl | rfl <;> decide
     · intro x hx
       refine el_EA (List.mem_map.mp hx) ?_; intro k hk zz4
       obtain rfl := zz4
       have hk' := List.mem_range.mp hk
       exact ordersN_size n _ (by simp; lia)
   · intro i xs hxs t' C s₅ m₃ E' u₅ hC hn hx
     have hi : i < rest.length := by
       have := (List.getElem?_eq_some_iff.mp hxs).1
       simpa using this
     rw [List.getElem?_map, List.getElem?_range hi] at hxs
     cases hxs
     have hpl₅ : s₅.heap.PlainList ax (List.toArray vs) := hpl.at fun o e => (us.trans u₅).keep _ o e
     have hc₅ := hcell.keeps u₅.keep
     have W₅ := W₄.up u₅
     exists wpAny_Call_NameR ?_
     exists n_gl W₅ (by trivial) (by trivial) (by trivial) (by trivial) W.gorders ?_
     exists cw_def (by trivial) ?_
     exists sp_more (by trivial) ?_
     exists wpAny_BinOp ?_
     exists cutL (fun _ _ => (by trivial)) ?_
     exists c_cell (by trivial) (by trivial) (by trivial) (by trivial) hc₅ ?_
     exists evalPart_none_step ?_
     exists evalPart_some_step ?_
     exists c_loc hn (by trivial) (by trivial) (by trivial) hx ?_
     exists ⟨ax, vs, none, some (0 + (i : Int)), rfl, hpl₅, (by lia), .none, .int _ _, fun D s₆ u₆ hD hl₆ => ?_⟩
     exists cutL (fun _ _ => (by trivial)) ?_
     exists c_cell (by trivial) (by trivial) (by trivial) (by trivial) (cellUp hc₅ u₆) ?_
     exists evalPart_some_step ?_
     exists wpAny_BinOp ?_
     exists c_loc (nsUp hn u₆) (by trivial) (by trivial) (by trivial) hx ?_
     exists wpAny_Constant_int ?_
     exists PyProof.Rows.add_int ?_
     exists from_ (Up.toks _ : Up s₆ _) fun s₇ u₇ => ?_
     exists evalPart_none_step ?_
     exists ⟨ax, vs, some (0 + (i : Int) + 1), none, rfl, plUp hpl₅ (u₆.trans u₇), (by lia), .int _ _, .none, fun D' s₈ u₈ hD' hl₈ => ?_⟩
     have e1 : (0 + (i : Int)) = ((i : Nat) : Int) := by lia
     have e2 : ((i : Int)) + 1 = ((i + 1 : Nat) : Int) := by lia
     rw [e1, PySem.slicePick_upto'] at hl₆
     rw [e1, e2, PySem.slicePick_from'] at hl₈
     have hp₅ : Paired (RC.r All s₈.heap) vs rest := Paired.imp (fun _ _ q => q) hp
     have h1 := Paired.length (Paired.take i hp₅)
     have h2 := Paired.length (Paired.drop (i + 1) hp₅)
     rw [List.length_take] at h1
     rw [List.length_drop] at h2
     rw [List.toList_toArray] at hl₆ hl₈
     exists addL (plUp hl₆ (u₇.trans u₈)) hl₈ ?_ fun D₂ s₉ u₉ hD₂ hl₉ => ?_
     · rw [List.length_take, List.length_drop]; lia
     exists spliced_none ?_
     have u₅₉ : Up s₅ s₉ := u₆.trans (u₇.trans (u₈.trans u₉))
     have W₉ := W₅.up u₅₉
     exists ⟨W₉.dorders.fn, ?_⟩
     have hRL : (RL RC).r All s₉.heap (.ref D₂) (rest.take i ++ rest.drop (i + 1)) := ⟨D₂, _, rfl, trivial, hl₉, Paired.append (Paired.take i hp) (Paired.drop (i + 1) hp)⟩
     have hlen2 : (rest.take i ++ rest.drop (i + 1)).length = n := by rw [List.length_append, List.length_take, List.length_drop]; lia
     have hroom' : (A.deeper (envOfC (nmOf (stmtAt 28)) (scOf (stmtAt 28)) L P.orders cd)).depth + n < recursionLimit := by show A.depth + 1 + n < _; lia
     exists call_ret (ih hroom' (deep_none hh _) W₉ hRL hlen2 (by lia)) fun v s₁₀ u₁₀ hv => ?_
     exact ⟨u₅₉.trans u₁₀, (RL (RL RC)).mono (fun a ha => Nat.le_trans u₅₉.size ha) hv⟩
   · intro i xs j o a' hxs ha t' C s₅ m₃ E' u₅ hC hn hx hx' hR
     have hi : i < rest.length := by
       have := (List.getElem?_eq_some_iff.mp hxs).1
       simpa using this
     rw [List.getElem?_map, List.getElem?_range hi] at hxs
     have hxs' := Option.some.inj hxs
     have ha4 : a'.length = n := by
       refine ordersN_len n _ ?_ a' (hxs' ▸ List.mem_of_getElem? ha)
       rw [List.length_append, List.length_take, List.length_drop]; lia
     have hpl₅ : s₅.heap.PlainList ax (List.toArray vs) := hpl.at fun o e => (us.trans u₅).keep _ o e
     have hc₅ := hcell.keeps u₅.keep
     refine el_EAE (Paired.get hp (List.getElem?_eq_getElem hi)) ?_; intro v' hv' t'' zz5
     obtain rfl := zz5
     exists wpAny_BinOp ?_
     exists List_ ?_
     exists sp_more (by trivial) ?_
     exists Subscript_ ?_
     exists c_cell (by trivial) (by trivial) (by trivial) (by trivial) hc₅ ?_
     exists c_loc hn (by trivial) (by trivial) (by trivial) hx ?_
     exists item_ hpl₅ (by trivial) (by lia) (by lia) (v := .str (sW [rest[i]]) t'') ?_ ?_
     · have : (0 + (i : Int)).toNat = i := by lia
       rw [List.getElem?_toArray, this]; exact hv'
     exists spliced_none ?_
     exists newL (by simp) fun D s₆ u₆ hD hl₆ => ?_
     exists c_loc (nsUp hn u₆) (by trivial) (by trivial) (by trivial) hx' ?_
     refine el_EEAAA ((RL RC).at hR u₆) ?_; intro ao os zz6 _ hplo hpo
     obtain rfl := zz6
     have hol := Paired.length hpo
     exists addL hl₆ hplo ?_ fun D' s₇ u₇ hD' hl₇ => ?_
     · rw [List.length_singleton]; lia
     have hs₆ := u₆.size
     refine ⟨u₆.trans u₇, D', _, rfl, by lia, hl₇, ?_⟩
     rw [List.getD_eq_getElem?_getD, List.getElem?_eq_getElem hi, Option.getD_some]
     exact .cons ⟨_, rfl⟩ (Paired.imp (fun _ _ q => q) hpo)
   · intro v s₅ u₅ hr'
     rw [outs_orders] at hr'
     exact retD_ (F₄.sub u₅) (u.trans (us.trans u₅)).st ((RL (RL RC)).mono (fun a ha => Nat.le_trans F₄.top ha) hr')
end
noncomputable def Low (env : Env) (n : Nat) : Prop := ∃ b : Nat, n = b + 1 ∧ (b = env.locals ∨ ∃ x, env.cells.lookup x = some b)
theorem list_max : ∀ (l : List Nat) (a : Nat), ∃ b ∈ a :: l, ∀ c ∈ a :: l, c ≤ b
 | [], a => ⟨a, .head _, fun c h => by rw [List.mem_singleton.mp h]; exact Nat.le_refl _⟩
 | x :: r, a => by
   refine el_EA (list_max r a) ?_; intro b hb hm
   by_cases h : x ≤ b
   · refine ⟨b, ?_, fun c hc => ?_⟩
     · rcases List.mem_cons.mp hb with rfl | q
       · exact .head _
       · exact .tail _ (.tail _ q)
     · rcases List.mem_cons.mp hc with rfl | q
       · exact hm _ (.head _)
       · rcases List.mem_cons.mp q with rfl | q
         · exact h
         · exact hm _ (.tail _ q)
   · refine ⟨x, .tail _ (.head _), fun c hc => ?_⟩
     rcases List.mem_cons.mp hc with rfl | q
     · have := hm _ (.head _); omega
     · rcases List.mem_cons.mp q with rfl | q
       · exact Nat.le_refl _
       · have := hm _ (.tail _ q); omega
theorem Fz.here' {h₀ : Heap} {env : Env} {n : Nat} {g h : Heap} {m : Str → Option Value} (F : Fz h₀ env n g h m) {n' : Nat} (hle : n' ≤ n) (hl : env.locals < n') (hc : ∀ x a, env.cells.lookup x = some a → a < n') : Fz h₀ env n' h h m :=
 ⟨F.base, F.lo, hl, Nat.le_trans hle F.top, F.ns, fun x a e => ⟨(F.cs x a e).1, (F.cs x a e).2.1, hc x a e⟩, F.apart, KeepOn.refl _ _⟩
theorem Fz.lower {h₀ : Heap} {env : Env} {n : Nat} {g h : Heap} {m : Str → Option Value} (F : Fz h₀ env n g h m) : ∃ n', n' ≤ n ∧ Low env n' ∧ Fz h₀ env n' h h m := by
 refine el_EA (list_max (env.cells.filterMap fun p => env.cells.lookup p.1) env.locals) ?_; intro b hb hm
 have hmem : ∀ x a, env.cells.lookup x = some a → a ∈ env.cells.filterMap fun p => env.cells.lookup p.1 := fun x a e =>
   List.mem_filterMap.mpr ⟨(x, a), mem_of_lookup e, e⟩
 have hlow : b = env.locals ∨ ∃ x, env.cells.lookup x = some b := by
   rcases List.mem_cons.mp hb with q | q
   · exact .inl q
   · refine el_EA (List.mem_filterMap.mp q) ?_; intro p _ e
     exact .inr ⟨_, e⟩
 have hlt : b < n := by
   rcases hlow with rfl | ⟨x, e⟩
   · exact F.hi
   · exact (F.cs x b e).2.2
 exact ⟨b + 1, hlt, ⟨b, rfl, hlow⟩, F.here' hlt (Nat.lt_succ_of_le (hm _ (.head _))) fun x a e => Nat.lt_succ_of_le (hm a (.tail _ (hmem x a e)))⟩
theorem Fz.turn {h₀ : Heap} {env : Env} {n : Nat} {g h h' : Heap} {m : Str → Option Value} {wr : List Addr} (F : Fz h₀ env n g h m) (low : Low env n) (k : KeepNot wr h h') (hwr : ∀ b : Nat, b ∈ wr → n ≤ b) : Fz h₀ env n h' h' m := by
 have no : ∀ b : Nat, b < n → b ∉ wr := fun b hb q => by have := hwr b q; omega
 have hlo := F.lo
 have hhi := F.hi
 have hns : ∃ ml, h'.Ns env.locals ml ∧ ∀ x, env.kindOf x = some .local → ml x = m x := by
   refine el_EA (F.ns) ?_; intro ml hn hm
   exact ⟨ml, hn.at' fun o e => k _ o (no _ hhi) e, hm⟩
 have hcs : ∀ x a, env.cells.lookup x = some a → h'.IsCell a (m x) ∧ env.locals < a ∧ a < n := fun x a e => by
   refine el_AA (F.cs x a e) ?_; intro zz0 h1 h2
   refine el_EA zz0 ?_; clear zz0; intro oc e1 e2
   exact ⟨⟨oc, k _ _ (no _ h2) e1, e2⟩, h1, h2⟩
 refine ⟨fun b o e => k b o (no b (Nat.lt_of_lt_of_le (Heap.lt_size e) (Nat.le_trans hlo (Nat.le_of_lt hhi)))) (F.base b o e), F.lo, F.hi, ?_, hns, hcs, F.apart, KeepOn.refl _ _⟩
 obtain ⟨b, rfl, rfl | ⟨x, e⟩⟩ := low
 · refine el_EA hns ?_; try clear hns; intro ml hn _
   exact hn.lt
 · refine el_A (hcs x b e) ?_; intro zz1 _
   refine el_EA zz1 ?_; clear zz1; intro oc e1 _
   exact Heap.lt_size e1
section
variable {prog : Program} {w : World} {A : Around} {E : Value → Shared → Prop} {s : Shared} {env : Env}
theorem forZ {I : Addr} {fp wr : List Addr} {k : Nat} {Pv : Nat → Value → Prop} {St : Nat → Heap → Prop} {h₀ g : Heap} {n : Nat} {m : Str → Option Value} {x : Str} {px : Pos} {body orelse : List Stmt} {R : Result → Shared → Prop}
   (W : Walks prog w A I fp wr k Pv St) (hwr : ∀ b : Nat, b ∈ wr → n ≤ b) (low : Low env n) (hst : St 0 s.heap) (F : Fz h₀ env n g s.heap m) (J : Nat → (Str → Option Value) → Heap → Prop) (hJ0 : J 0 m s.heap) (hJ : ∀ i m h h', J i m h → KeepNot wr h h' → J i m h')
   (turn : ∀ i v s₂ m₂ (E' : Value → Shared → Prop), i < k → Pv i v → Sm s s₂ → Fz h₀ env n s₂.heap s₂.heap m₂ → J i m₂ s₂.heap → wpAny (model prog w) A (storeName env x v) (fun _ s₃ => wpAny (model prog w) A (execs body env) (fun f s₄ => match f with
     | .next | .cont => ∃ m₄ g₄, Fz h₀ env n g₄ s₄.heap m₄ ∧ Sm s s₄ ∧ (∀ b ∈ fp, ∀ o, s₂.heap.get? b = some o → s₄.heap.get? b = some o) ∧ J (i + 1) m₄ s₄.heap
     | .brk => R (.ok .next) s₄
     | .ret v => R (.ok (.ret v)) s₄) E' s₃) E' s₂)
   (fin : ∀ s₂ m₂ (E' : Value → Shared → Prop), Sm s s₂ → Fz h₀ env n s₂.heap s₂.heap m₂ → J k m₂ s₂.heap → wpAny (model prog w) A (execs orelse env) (fun f s' => R (.ok f) s') E' s₂) :
   codeAny (model prog w) A (.forLoop (.Name x px) (.ref I) body orelse env) R s := by
 refine codeAny_forLoop (fun c s' => ∃ i m' g', c = k + 1 - i ∧ i ≤ k ∧ Sm s s' ∧ Fz h₀ env n g' s'.heap m' ∧ St i s'.heap ∧ J i m' s'.heap) ?_ (k + 1) ⟨0, m, g, rfl, Nat.zero_le _, Sm.refl _, F, hst, hJ0⟩
 intro c s' zzM11_72_2
 refine el_EEEAAAAA zzM11_72_2 ?_; clear zzM11_72_2; intro i m' g' zz2 hi sm F' hst' hJ'
 obtain rfl := zz2
 by_cases hlt : i < k
 · refine W.item i _ _ _ hlt hst' fun v h₂ tk₂ hPv hst₂ hk₂ => ?_
   refine wpAny_assign_Name ?_
   refine wpAny_mono (turn i v { s' with heap := h₂, toks := tk₂ } m' _ hlt hPv ⟨sm.gens, sm.drawn, sm.os⟩ (F'.turn low hk₂ hwr) (hJ _ _ _ _ hJ' hk₂)) (fun _ s₃ h₃ => ?_) fun _ _ e => e
   refine wpAny_mono h₃ (fun f s₄ h₄ => ?_) fun _ _ e => e
   have key : ∀ (h : ∃ m₄ g₄, Fz h₀ env n g₄ s₄.heap m₄ ∧ Sm s s₄ ∧ (∀ b ∈ fp, ∀ o, h₂.get? b = some o → s₄.heap.get? b = some o) ∧ J (i + 1) m₄ s₄.heap), ∃ m, m < k + 1 - i ∧ ∃ i m' g', m = k + 1 - i ∧ i ≤ k ∧ Sm s s₄ ∧ Fz h₀ env n g' s₄.heap m' ∧ St i s₄.heap ∧ J i m' s₄.heap := by
     intro zzM11_79_0
     refine el_EEAAA zzM11_79_0 ?_; clear zzM11_79_0; intro m₄ g₄ F₄ sm₄ hfp hJ₄
     exact ⟨k + 1 - (i + 1), by omega, i + 1, m₄, g₄, rfl, hlt, sm₄, F₄, W.frame _ _ _ hst₂ hfp, hJ₄⟩
   cases f with
   | next => exact key h₄
   | cont => exact key h₄
   | brk => exact h₄
   | ret v => exact h₄
 · obtain rfl : i = k := Nat.le_antisymm hi (Nat.not_lt.mp hlt)
   refine W.done _ _ _ hst' fun h₂ tk₂ hk₂ => ?_
   exact fin { s' with heap := h₂, toks := tk₂ } m' _ ⟨sm.gens, sm.drawn, sm.os⟩ (F'.turn low hk₂ hwr) (hJ _ _ _ _ hJ' hk₂)
theorem for_range {h₀ g : Heap} {n : Nat} {m : Str → Option Value} {x : Str} {px : Pos} {body orelse : List Stmt} {R : Result → Shared → Prop} {r : Addr} {a b : Int} {t u v : Tok} {k : Nat}
   (hh : A.handled = none) (hr : IsRange s.heap r a b 1 t u v) (hsm : Builtin.Range.small a b 1 = true) (hn : Builtin.Range.rangeSize a b 1 = ((k : Nat) : Int))
   (low : Low env n) (F : Fz h₀ env n g s.heap m) (J : Nat → (Str → Option Value) → Heap → Prop) (hJ : ∀ i m h h', J i m h → KeepNot [s.heap.objs.size] h h' → J i m h')
   (hJp : ∀ o, J 0 m (s.heap.push o))
   (turn : ∀ i t' s₂ m₂ (E' : Value → Shared → Prop), i < k → Sm s s₂ → Fz h₀ env n s₂.heap s₂.heap m₂ → J i m₂ s₂.heap → wpAny (model prog w) A (storeName env x (.int (a + (i : Nat)) t')) (fun _ s₃ => wpAny (model prog w) A (execs body env) (fun f s₄ => match f with
     | .next | .cont => ∃ m₄, Fz h₀ env n s₂.heap s₄.heap m₄ ∧ Sm s s₄ ∧ J (i + 1) m₄ s₄.heap
     | .brk => R (.ok .next) s₄
     | .ret v => R (.ok (.ret v)) s₄) E' s₃) E' s₂)
   (fin : ∀ s₂ m₂ (E' : Value → Shared → Prop), Sm s s₂ → Fz h₀ env n s₂.heap s₂.heap m₂ → J k m₂ s₂.heap → wpAny (model prog w) A (execs orelse env) (fun f s' => R (.ok f) s') E' s₂) :
   wpAny (model prog w) A (pyIter (.ref r)) (fun it s₂ => codeAny (model prog w) A (.forLoop (.Name x px) it body orelse env) R s₂) E s := by
 refine wpAny_pyIter_range hr hsm ?_
 refine forZ (LCg.range_walks hh a k) (fun b hb => by rw [List.mem_singleton.mp hb]; exact F.top) low (by show IsRangeIter _ _ _ _ _; rw [hn]; simpa using Heap.get?_push_size _ rfl) (F.pass' (.push _ _) (by rw [Heap.size_push]; exact Nat.le_succ _)) J (hJp _) hJ ?_ ?_
 · intro i v s₂ m₂ E' hi zzM11_103_6 sm F₂ hJ₂
   refine el_E zzM11_103_6 ?_; clear zzM11_103_6; intro t' zz3
   obtain rfl := zz3
   refine wpAny_mono (turn i t' s₂ m₂ E' hi ⟨sm.gens, sm.drawn, sm.os⟩ F₂ hJ₂) (fun _ s₃ h₃ => wpAny_mono h₃ (fun f s₄ h₄ => ?_) fun _ _ e => e) fun _ _ e => e
   cases f with
   | next => obtain ⟨m₄, F₄, sm₄, hJ₄⟩ := h₄; exact ⟨m₄, _, F₄, ⟨sm₄.gens, sm₄.drawn, sm₄.os⟩, fun b hb o e => F₄.keep b o (.inr (by rw [List.mem_singleton.mp hb]; exact F.top)) e, hJ₄⟩
   | cont => obtain ⟨m₄, F₄, sm₄, hJ₄⟩ := h₄; exact ⟨m₄, _, F₄, ⟨sm₄.gens, sm₄.drawn, sm₄.os⟩, fun b hb o e => F₄.keep b o (.inr (by rw [List.mem_singleton.mp hb]; exact F.top)) e, hJ₄⟩
   | brk => exact h₄
   | ret v => exact h₄
 · rintro s₂ m₂ E' sm F₂ hJ₂
   exact fin s₂ m₂ E' ⟨sm.gens, sm.drawn, sm.os⟩ F₂ hJ₂
end
theorem upd_ne {x y : Str} {m : Str → Option Value} {u v : Option Value} (h : y ≠ x) (e : m y = v) : (if y = x then u else m y) = v := by rw [if_neg h]; exact e
theorem upd_eq {x : Str} {m : Str → Option Value} {u : Option Value} : (if x = x then u else m x) = u := if_pos rfl
section
variable {prog : Program} {w : World} {A : Around} {E : Value → Shared → Prop} {s : Shared} {env : Env} {a b l : List Nat} {t u : Tok} {Q : Value → Shared → Prop}
theorem eqW (h : Q (.bool (a == b)) s) : wpAny (model prog w) A (compareOp .Eq (.str (sW a) t) (.str (sW b) u)) Q E s := PySem.P.eq_str h
theorem neW (h : Q (.bool (a != b)) s) : wpAny (model prog w) A (compareOp .NotEq (.str (sW a) t) (.str (sW b) u)) Q E s := PySem.P.ne_str h
theorem leW (h : Q (.bool (!(decide (b < a)))) s) : wpAny (model prog w) A (compareOp .LtE (.str (sW a) t) (.str (sW b) u)) Q E s := PySem.P.le_str h
theorem sW_length : (sW a).length = a.length := by show a.toArray.size = _; rw [List.size_toArray]
theorem addW (hz : a.length + b.length ≤ 100000) (h : ∀ t' s', Up s s' → Q (.str (sW (a ++ b)) t') s') : wpAny (model prog w) A (binaryOp .Add (.str (sW a) t) (.str (sW b) u)) Q E s := by
 refine PySem.P.add_str ?_
 rw [sW_length, sW_length]
 by_cases ha : a = []
 · subst ha; exact h _ _ (Up.refl s)
 · rw [if_neg (by simpa using ha)]
   by_cases hb : b = []
   · subst hb
     have := h t s (Up.refl s)
     rw [List.append_nil] at this
     exact this
   · rw [if_neg (by simpa using hb), sW_append]
     refine ⟨?_, h _ _ (Up.toks _)⟩
     rw [sW_length, List.length_append, sizeLine_eq]; omega
theorem lenW (hz : a.length ≤ 100000) (h : ∀ t' s', Up s s' → Q (.int (a.length : Nat) t') s') : wpAny (model prog w) A (call (.builtin "len") [.str (sW a) t]) Q E s := by
 refine PySem.P.len_str (by rw [sW_length]; omega) ?_
 rw [sW_length]
 exact h _ _ (Up.toks _)
theorem truthyW {Q : Bool → Shared → Prop} (hz : a.length ≤ 100000) (h : ∀ s', Up s s' → Q (!a.isEmpty) s') : wpAny (model prog w) A (truthy (.str (sW a) t)) Q E s := by
 refine PySem.P.truthy_str (by rw [sW_length]; omega) ?_
 rw [sW_length]
 have : ((a.length : Int) != 0) = !a.isEmpty := by cases a <;> simp; omega
 rw [this]
 exact h _ (Up.toks _)
theorem itemW {value slice : Expr} {k : Int} {c : Nat} (hs : subscripted slice false (.str (sW l) t) (.int k u) = operate [.str (sW l) t, .int k u] (getItem (.str (sW l) t) (.int k u)))
   (ht : ∀ r, letTemporaryGo value (.str (sW l) t) r = pure ()) (h0 : 0 ≤ k) (hk : k < 100000) (hc : l[k.toNat]? = some c) (h : ∀ t' s', Up s s' → Q (.str (sW [c]) t') s') :
   wpAny (model prog w) A (subscriptTail value slice (.str (sW l) t) (.int k u)) Q E s := by
 refine tail_of_ItemOn ⟨"str", _, PySem.F.slot_str_getitem.lookup, typeIs_str _ _ _, PySem.P.getItem_str (c := c) (by simp; omega) ?_ (h _ _ (Up.toks _))⟩ hs ht
 have hlt : k.toNat < l.length := (List.getElem?_eq_some_iff.mp hc).1
 rw [sW_length]
 have : seqIndex? k l.length = some k.toNat := by
   unfold seqIndex?
   simp only [show ¬ k < 0 by omega, if_false]
   rw [if_pos (by rw [Bool.and_eq_true, decide_eq_true_eq, decide_eq_true_eq]; omega)]
 rw [this]
 show (l.toArray)[k.toNat]? = some c
 rw [List.getElem?_toArray]; exact hc
theorem ordW {c : Nat} (h : ∀ t' s', Up s s' → Q (.int (c : Nat) t') s') : wpAny (model prog w) A (call (.builtin "ord") [.str (sW [c]) t]) Q E s := PySem.P.ord_of_char (h _ _ (Up.toks _))
end
noncomputable def cmp3 (x y : Int) : Int := b2i (decide (y < x)) - b2i (decide (x < y))
noncomputable def pairOf : List Nat → List Nat → List Nat
 | [], _ => []
 | a :: _, [] => [a, a]
 | a :: r, b :: r' => if a = b then pairOf r r' else [a, b]
section
variable {prog : Program} {w : World} {A : Around} {s : Shared} {P : Adr} {mg mb : Str → Option Value}
theorem c_cmp3 {x y : Int} {t u : Tok} (hroom : A.depth < recursionLimit) (W : Wd P mg mb s.heap) :
   codeAny (model prog w) A (.call (.ref P.cmp3) ⟨[.int x t, .int y u], []⟩) (RetD RI (cmp3 x y) s) s := by
 refine enterZ (binds := [(Str.ofString "x", .int x t), (Str.ofString "y", .int y u)]) hroom W.dcmp3 W.lim (by intros; rfl) (by rfl) (by rfl) ?_ rfl rfl rfl
 intro L cd s₁ n F u
 refine wpAny_execs_cons ?_
 exists wpAny_Return_some ?_
 exists wpAny_BinOp ?_
 exists wpAny_Compare1 ?_ (by trivial)
 exists n_loc F (by trivial) (by trivial) (by trivial) (by trivial) ?_
 exists n_loc F (by trivial) (by trivial) (by trivial) (by trivial) ?_
 exists PyProof.Rows.gt_int ?_
 exists wpAny_Compare1 ?_ (by trivial)
 exists n_loc F (by trivial) (by trivial) (by trivial) (by trivial) ?_
 exists n_loc F (by trivial) (by trivial) (by trivial) (by trivial) ?_
 exists PyProof.Rows.lt_int ?_
 exists PyProof.Rows.sub_bool ?_
 exact retD_ (F.pass (Up.toks _)) (u.trans (Up.toks _)).st ⟨_, rfl⟩
theorem pair_drop {one two : List Nat} {i : Nat} (h1 : i < one.length) : pairOf (one.drop i) (two.drop i) = if h : i < two.length then (if one[i] = two[i] then pairOf (one.drop (i + 1)) (two.drop (i + 1)) else [one[i], two[i]]) else [one[i], one[i]] := by
 rw [List.drop_eq_getElem_cons h1]
 by_cases h : i < two.length
 · rw [List.drop_eq_getElem_cons h, dif_pos h]; rfl
 · rw [dif_neg h, List.drop_of_length_le (Nat.not_lt.mp h)]; rfl
theorem c_pair {one two : List Nat} {t u : Tok} (hroom : A.depth < recursionLimit) (hh : A.handled = none) (W : Wd P mg mb s.heap) (h1 : one.length ≤ 1000) (h2 : two.length ≤ 1000) :
   codeAny (model prog w) A (.call (.ref P.pair) ⟨[.str (sW one) t, .str (sW two) u], []⟩) (RetD (RL RC) (pairOf one two) s) s := by
 refine enterZ (binds := [(Str.ofString "one", .str (sW one) t), (Str.ofString "two", .str (sW two) u)]) hroom W.dpair W.lim (by intros; rfl) (by rfl) (by rfl) ?_ rfl rfl rfl
 intro L cd s₁ n F u
 refine el_EAA (F.lower) ?_; intro n' _ low F
 refine wpAny_execs_cons ?_
 exists wpAny_For ?_ (fun _ => (by trivial))
 have W₁ := W.up u
 exists wpAny_Call_NameR ?_
 exists n_bi W₁ (by trivial) (by trivial) (by trivial) (by trivial) (by trivial) (by decide) (W.no "range" (by decide)) PyProof.Rows.boot_range ?_
 exists cw_type (by trivial) ?_
 exists sp_more (by trivial) ?_
 exists wpAny_Call_NameR ?_
 exists n_bi W₁ (by trivial) (by trivial) (by trivial) (by trivial) (by trivial) (by decide) (W.no "len" (by decide)) boot_len ?_
 exists cw_bi (by trivial) ?_
 exists sp_more (by trivial) ?_
 exists n_loc F (by trivial) (by trivial) (by trivial) (by trivial) ?_
 exists spliced_none ?_
 exists lenW (by omega) fun t₂ s₂ u₂ => ?_
 exists spliced_none ?_
 exists range_one fun r s₃ t₃ t₄ t₅ u₃ hr => ?_
 have us : Up s s₃ := u.trans (u₂.trans u₃)
 exists for_range (deep_none hh _) hr (small_nat (by omega)) rangeSize_nat low (F.pass (u₂.trans u₃)) (fun i m _ => m (Str.ofString "one") = some (.str (sW one) t) ∧ (∃ t', m (Str.ofString "two") = some (.str (sW two) t')) ∧ pairOf one two = pairOf (one.drop i) (two.drop i) ∧ i ≤ two.length) (fun _ _ _ _ h _ => h) (fun _ => ⟨(by trivial), ⟨_, (by trivial)⟩, rfl, Nat.zero_le _⟩) ?_ ?_
 · intro i t' s₄ m₄ E' hi sm F₄ hJ
   refine el_AAA hJ ?_; try clear hJ; intro hm1 zz0 hp hle
   refine el_E zz0 ?_; clear zz0; intro t6 hm2
   exists st_loc F₄ (by trivial) (by trivial) (by trivial) fun s₅ F₅ hs₅ sm₅ => ?_
   have W₅ := W.keeps F₅.base
   have k1 := upd_ne (x := Str.ofString "k") (u := some (.int (0 + (i : Int)) t')) (by decide) hm1
   have k2 := upd_ne (x := Str.ofString "k") (u := some (.int (0 + (i : Int)) t')) (by decide) hm2
   have e0 : (0 + (i : Int)) = ((i : Nat) : Int) := by omega
   rw [pair_drop hi] at hp
   refine wpAny_execs_cons ?_
   by_cases hk : i < two.length
   · rw [dif_pos hk] at hp
     exists If_f ?_
     exists wpAny_isTrue_Compare1 ?_ (by trivial)
     exists n_loc F₅ (by trivial) (by trivial) (by trivial) upd_eq ?_
     exists wpAny_Call_NameR ?_
     exists n_bi W₅ (by trivial) (by trivial) (by trivial) (by trivial) (by trivial) (by decide) (W.no "len" (by decide)) boot_len ?_
     exists cw_bi (by trivial) ?_
     exists sp_more (by trivial) ?_
     exists n_loc F₅ (by trivial) (by trivial) (by trivial) k2 ?_
     exists spliced_none ?_
     exists lenW (by omega) fun t₆ s₆ u₆ => ?_
     exists PyProof.Rows.eq_int ?_
     exists wpAny_truthy_bool ?_
     exists ⟨?_, ?_⟩
     · rw [e0]; exact beq_eq_false_iff_ne.mpr (by omega)
     refine wpAny_execs_nil ?_
     refine wpAny_execs_cons ?_
     have F₆ := F₅.pass u₆
     have h1k : one[(0 + (i : Int)).toNat]? = some one[i] := by rw [e0, Int.toNat_natCast]; exact List.getElem?_eq_getElem hi
     have h2k : two[(0 + (i : Int)).toNat]? = some two[i] := by rw [e0, Int.toNat_natCast]; exact List.getElem?_eq_getElem hk
     by_cases hq : one[i] = two[i]
     · rw [if_pos hq] at hp
       exists If_f ?_
       exists wpAny_isTrue_Compare1 ?_ (by trivial)
       exists Subscript_ ?_
       exists n_loc F₆ (by trivial) (by trivial) (by trivial) k1 ?_
       exists n_loc F₆ (by trivial) (by trivial) (by trivial) upd_eq ?_
       exists itemW (by trivial) (fun _ => (by trivial)) (by omega) (by omega) h1k fun t₇ s₇ u₇ => ?_
       have F₇ := F₆.pass u₇
       exists Subscript_ ?_
       exists n_loc F₇ (by trivial) (by trivial) (by trivial) k2 ?_
       exists n_loc F₇ (by trivial) (by trivial) (by trivial) upd_eq ?_
       exists itemW (by trivial) (fun _ => (by trivial)) (by omega) (by omega) h2k fun t₈ s₈ u₈ => ?_
       have F₈ := F₇.pass u₈
       exists neW ?_
       exists wpAny_truthy_bool ?_
       exists ⟨?_, ?_⟩
       · rw [hq]; simp
       refine wpAny_execs_nil ?_
       refine wpAny_execs_nil ?_
       exact ⟨_, F₈, sm.trans (sm₅.trans (u₆.trans (u₇.trans u₈)).st), k1, ⟨_, k2⟩, hp, hk⟩
     · rw [if_neg hq] at hp
       exists If_t ?_
       exists wpAny_isTrue_Compare1 ?_ (by trivial)
       exists Subscript_ ?_
       exists n_loc F₆ (by trivial) (by trivial) (by trivial) k1 ?_
       exists n_loc F₆ (by trivial) (by trivial) (by trivial) upd_eq ?_
       exists itemW (by trivial) (fun _ => (by trivial)) (by omega) (by omega) h1k fun t₇ s₇ u₇ => ?_
       have F₇ := F₆.pass u₇
       exists Subscript_ ?_
       exists n_loc F₇ (by trivial) (by trivial) (by trivial) k2 ?_
       exists n_loc F₇ (by trivial) (by trivial) (by trivial) upd_eq ?_
       exists itemW (by trivial) (fun _ => (by trivial)) (by omega) (by omega) h2k fun t₈ s₈ u₈ => ?_
       have F₈ := F₇.pass u₈
       exists neW ?_
       exists wpAny_truthy_bool ?_
       exists ⟨?_, ?_⟩
       · simpa using hq
       refine wpAny_execs_cons ?_
       exists wpAny_Return_some ?_
       exists List_ ?_
       exists sp_more (by trivial) ?_
       exists Subscript_ ?_
       exists n_loc F₈ (by trivial) (by trivial) (by trivial) k1 ?_
       exists n_loc F₈ (by trivial) (by trivial) (by trivial) upd_eq ?_
       exists itemW (by trivial) (fun _ => (by trivial)) (by omega) (by omega) h1k fun t₉ s₉ u₉ => ?_
       have F₉ := F₈.pass u₉
       exists sp_more (by trivial) ?_
       exists Subscript_ ?_
       exists n_loc F₉ (by trivial) (by trivial) (by trivial) k2 ?_
       exists n_loc F₉ (by trivial) (by trivial) (by trivial) upd_eq ?_
       exists itemW (by trivial) (fun _ => (by trivial)) (by omega) (by omega) h2k fun t₁₀ s₁₀ u₁₀ => ?_
       exists spliced_none ?_
       exists newL (by simp) fun D s₁₁ u₁₁ hD hl => ?_
       have F' := (F₉.pass u₁₀).pass u₁₁
       have hs := (F₉.pass u₁₀).top
       refine retD_ (R := RL RC) F' (us.st.trans (sm.trans (sm₅.trans (u₆.trans (u₇.trans (u₈.trans (u₉.trans (u₁₀.trans u₁₁))))).st))) ?_
       rw [hp]
       exact ⟨D, _, rfl, Nat.le_trans hs hD, hl, .cons ⟨_, rfl⟩ (.cons ⟨_, rfl⟩ .nil)⟩
   · rw [dif_neg hk] at hp
     have hil : i = two.length := by omega
     exists If_t ?_
     exists wpAny_isTrue_Compare1 ?_ (by trivial)
     exists n_loc F₅ (by trivial) (by trivial) (by trivial) upd_eq ?_
     exists wpAny_Call_NameR ?_
     exists n_bi W₅ (by trivial) (by trivial) (by trivial) (by trivial) (by trivial) (by decide) (W.no "len" (by decide)) boot_len ?_
     exists cw_bi (by trivial) ?_
     exists sp_more (by trivial) ?_
     exists n_loc F₅ (by trivial) (by trivial) (by trivial) k2 ?_
     exists spliced_none ?_
     exists lenW (by omega) fun t₆ s₆ u₆ => ?_
     exists PyProof.Rows.eq_int ?_
     exists wpAny_truthy_bool ?_
     exists ⟨?_, ?_⟩
     · rw [e0, hil]; simp
     have F₆ := F₅.pass u₆
     have h1k : one[(0 + (i : Int)).toNat]? = some one[i] := by rw [e0, Int.toNat_natCast]; exact List.getElem?_eq_getElem hi
     refine wpAny_execs_cons ?_
     exists wpAny_Return_some ?_
     exists List_ ?_
     exists sp_more (by trivial) ?_
     exists Subscript_ ?_
     exists n_loc F₆ (by trivial) (by trivial) (by trivial) k1 ?_
     exists n_loc F₆ (by trivial) (by trivial) (by trivial) upd_eq ?_
     exists itemW (by trivial) (fun _ => (by trivial)) (by omega) (by omega) h1k fun t₉ s₉ u₉ => ?_
     have F₉ := F₆.pass u₉
     exists sp_more (by trivial) ?_
     exists Subscript_ ?_
     exists n_loc F₉ (by trivial) (by trivial) (by trivial) k1 ?_
     exists n_loc F₉ (by trivial) (by trivial) (by trivial) upd_eq ?_
     exists itemW (by trivial) (fun _ => (by trivial)) (by omega) (by omega) h1k fun t₁₀ s₁₀ u₁₀ => ?_
     exists spliced_none ?_
     exists newL (by simp) fun D s₁₁ u₁₁ hD hl => ?_
     have F' := (F₉.pass u₁₀).pass u₁₁
     have hs := (F₉.pass u₁₀).top
     refine retD_ (R := RL RC) F' (us.st.trans (sm.trans (sm₅.trans (u₆.trans (u₉.trans (u₁₀.trans u₁₁))).st))) ?_
     rw [hp]
     exact ⟨D, _, rfl, Nat.le_trans hs hD, hl, .cons ⟨_, rfl⟩ (.cons ⟨_, rfl⟩ .nil)⟩
 · intro s₄ m₄ E' sm F₄ hJ
   refine el_AAA hJ ?_; try clear hJ; intro _ _ hp _
   refine wpAny_execs_nil ?_
   refine wpAny_execs_cons ?_
   exists wpAny_Return_some ?_
   exists List_ ?_
   exists spliced_none ?_
   exists newL (by simp) fun D s₅ u₅ hD hl => ?_
   refine retD_ (R := RL RC) (F₄.pass u₅) (us.st.trans (sm.trans u₅.st)) ?_
   rw [hp, List.drop_length]
   exact ⟨D, _, rfl, Nat.le_trans F₄.top hD, hl, .nil⟩
end
section
variable {prog : Program} {w : World} {A : Around} {E : Value → Shared → Prop} {s : Shared} {env : Env} {a b l : List Nat} {x y : Str} {t u : Tok} {Q : Value → Shared → Prop}
theorem itemS {value slice : Expr} {k : Int} {c : Nat} (hx : x = sW l) (hs : subscripted slice false (.str x t) (.int k u) = operate [.str x t, .int k u] (getItem (.str x t) (.int k u)))
   (ht : ∀ r, letTemporaryGo value (.str x t) r = pure ()) (h0 : 0 ≤ k) (hk : k < 100000) (hc : l[k.toNat]? = some c) (h : ∀ t' s', Up s s' → Q (.str (sW [c]) t') s') :
   wpAny (model prog w) A (subscriptTail value slice (.str x t) (.int k u)) Q E s := by
 subst hx; exact itemW hs ht h0 hk hc h
theorem eqS (hx : x = sW a) (hy : y = sW b) (h : Q (.bool (a == b)) s) : wpAny (model prog w) A (compareOp .Eq (.str x t) (.str y u)) Q E s := by
 subst hx; subst hy; exact eqW h
theorem addS (hx : x = sW a) (hy : y = sW b) (hz : a.length + b.length ≤ 100000) (h : ∀ t' s', Up s s' → Q (.str (sW (a ++ b)) t') s') : wpAny (model prog w) A (binaryOp .Add (.str x t) (.str y u)) Q E s := by
 subst hx; subst hy; exact addW hz h
theorem leC {c d : Nat} (hx : x = sW [c]) (hy : y = sW [d]) (h : Q (.bool (decide (c ≤ d))) s) : wpAny (model prog w) A (compareOp .LtE (.str x t) (.str y u)) Q E s := by
 subst hx; subst hy
 refine leW ?_
 have : (!(decide ([d] < [c]))) = decide (c ≤ d) := by
   by_cases hcd : c ≤ d
   · have : ¬ ([d] < [c]) := by
       intro q
       rw [List.cons_lt_cons_iff] at q
       rcases q with q | ⟨_, q⟩
       · omega
       · exact absurd q (List.not_lt_nil _)
     simp [this, hcd]
   · have : [d] < [c] := by
       rw [List.cons_lt_cons_iff]; exact .inl (by omega)
     simp [this, hcd]
 rw [this]; exact h
theorem IfExp_t {test body orelse : Expr} {pos : Pos} (h : wpAny (model prog w) A (PySem.isTrue test env (eval test env)) (fun b s₁ => b = true ∧ wpAny (model prog w) A (eval body env) Q E s₁) E s) :
 wpAny (model prog w) A (eval (.IfExp test body orelse pos) env) Q E s := wpAny_IfExp (wpAny_mono h (fun b s₁ ⟨e, h⟩ => by subst e; exact h) fun _ _ x => x)
theorem IfExp_f {test body orelse : Expr} {pos : Pos} (h : wpAny (model prog w) A (PySem.isTrue test env (eval test env)) (fun b s₁ => b = false ∧ wpAny (model prog w) A (eval orelse env) Q E s₁) E s) :
 wpAny (model prog w) A (eval (.IfExp test body orelse pos) env) Q E s := wpAny_IfExp (wpAny_mono h (fun b s₁ ⟨e, h⟩ => by subst e; exact h) fun _ _ x => x)
theorem or_b {e₁ e₂ : Expr} {rest : List Expr} {pos : Pos} (b : Bool) (h₁ : wpAny (model prog w) A (eval e₁ env) (fun v s₁ => v = .bool b ∧ Up s s₁) E s) (ht : b = true → ∀ s₁, Up s s₁ → Q (.bool true) s₁)
   (hf : b = false → ∀ s₁, Up s s₁ → wpAny (model prog w) A (eval (.BoolOp .Or (e₂ :: rest) pos) env) Q E s₁) : wpAny (model prog w) A (eval (.BoolOp .Or (e₁ :: e₂ :: rest) pos) env) Q E s := by
 refine BoolOp_or (wpAny_mono h₁ (fun v s₁ ⟨e, u⟩ => ?_) fun _ _ x => x)
 subst e
 refine wpAny_truthy_bool ?_
 cases b with
 | true => exact ht rfl s₁ u
 | false => exact hf rfl s₁ u
theorem between {el e₁ e₂ : Expr} {pos : Pos} {lo hi c : Nat} (hm : lastMarks [CmpOp.LtE, CmpOp.LtE] [e₁, e₂] = false)
   (h : wpAny (model prog w) A (eval el env) (fun v s₁ => (∃ x t, v = .str x t ∧ x = sW [lo]) ∧ Up s s₁ ∧ ∀ s₂, Up s s₂ → wpAny (model prog w) A (eval e₁ env) (fun v s₃ => (∃ x t, v = .str x t ∧ x = sW [c]) ∧ Up s₂ s₃ ∧ ∀ s₄, Up s s₄ → wpAny (model prog w) A (eval e₂ env) (fun v s₅ => (∃ x t, v = .str x t ∧ x = sW [hi]) ∧ Up s₄ s₅) E s₄) E s₂) E s) :
   wpAny (model prog w) A (eval (.Compare el [.LtE, .LtE] [e₁, e₂] pos) env) (fun v s' => v = .bool (decide (lo ≤ c) && decide (c ≤ hi)) ∧ Up s s') E s := by
 refine Compare_chain (wpAny_mono h (fun v s₁ ⟨⟨x, t, e, ex⟩, u, h₂⟩ => ?_) fun _ _ x => x) hm
 subst e
 refine chain_link (wpAny_mono (h₂ s₁ u) (fun v s₃ ⟨⟨y, t', e, ey⟩, u₃, h₄⟩ => ?_) fun _ _ x => x)
 subst e
 refine leC ex ey (wpAny_truthy_bool ?_)
 by_cases q : lo ≤ c
 · rw [if_pos (by simpa using q)]
   refine chain_last (wpAny_mono (h₄ s₃ (u.trans u₃)) (fun v s₅ ⟨⟨z, t'', e, ez⟩, u₅⟩ => ?_) fun _ _ x => x)
   subst e
   refine leC ey ez ⟨by simp [q], (u.trans u₃).trans u₅⟩
 · rw [if_neg (by simpa using q)]
   exact ⟨by simp [q], u.trans u₃⟩
end
noncomputable def figs : List Nat := [48, 49, 50, 51, 52, 53, 54, 55, 56, 57, 65, 66, 67, 68, 69, 70]
noncomputable def kept (c : Nat) : Bool := (decide (48 ≤ c) && decide (c ≤ 57)) || (decide (65 ≤ c) && decide (c ≤ 90)) || (decide (97 ≤ c) && decide (c ≤ 122))
noncomputable def ring : List Nat := [97, 32, 61, 233, 95, 66]
noncomputable def signOf (c : Nat) : List Nat := if c = 32 then [95] else if kept c then [c] else [61, figs.getD (c / 16) 0, figs.getD (c % 16) 0]
theorem not_in (c : Nat) (hc : c ∈ ring) : (!(Builtin.Str.occurrences (Str.ofString "-!*+/") (sW [c]) 0 (Str.ofString "-!*+/").length 1).isEmpty) = false := by
 have : ∀ c ∈ ring, (!(Builtin.Str.occurrences (Str.ofString "-!*+/") (sW [c]) 0 (Str.ofString "-!*+/").length 1).isEmpty) = false := by decide +kernel
 exact this c hc
section
variable {prog : Program} {w : World} {A : Around} {s : Shared} {P : Adr} {mg mb : Str → Option Value}
theorem c_sign {c : Nat} {t : Tok} (hroom : A.depth < recursionLimit) (W : Wd P mg mb s.heap) (hc : c ∈ ring) :
   codeAny (model prog w) A (.call (.ref P.sign) ⟨[.str (sW [c]) t], []⟩) (RetD RW (signOf c) s) s := by
 refine enterZ (binds := [(Str.ofString "letter", .str (sW [c]) t)]) hroom W.dsign W.lim (by intros; rfl) (by rfl) (by rfl) ?_ rfl rfl rfl
 intro L cd s₁ n F u
 refine wpAny_execs_cons ?_
 exists wpAny_Assign_Name ?_ (by trivial)
 exists wpAny_Constant_str ?_
 exists from_ (Up.toks _ : Up s₁ _) fun s₂ u₂ => ?_
 exists st_loc (F.pass u₂) (by trivial) (by trivial) (by trivial) fun s₃ F₃ hs₃ sm₃ => ?_
 have W₃ := W.keeps F₃.base
 refine wpAny_execs_cons ?_
 by_cases h32 : c = 32
 · exists If_t ?_
   exists wpAny_isTrue_Compare1 ?_ (by trivial)
   exists n_loc F₃ (by trivial) (by trivial) (by trivial) (by trivial) ?_
   exists wpAny_Constant_str ?_
   exists eqS (a := [c]) (b := [32]) rfl (by decide +kernel) ?_
   exists wpAny_truthy_bool ?_
   exists ⟨by simp [h32], ?_⟩
   refine wpAny_execs_cons ?_
   exists wpAny_Return_some ?_
   exists wpAny_Constant_str ?_
   refine retD_ (R := RW) (F₃.pass ((Up.toks _).trans (Up.toks _))) (u.trans u₂ |>.st.trans (sm₃.trans ((Up.toks _).trans (Up.toks _)).st)) ?_
   unfold signOf
   rw [if_pos h32]
   exact ⟨_, rfl⟩
 · exists If_f ?_
   exists wpAny_isTrue_Compare1 ?_ (by trivial)
   exists n_loc F₃ (by trivial) (by trivial) (by trivial) (by trivial) ?_
   exists wpAny_Constant_str ?_
   exists eqS (a := [c]) (b := [32]) rfl (by decide +kernel) ?_
   exists wpAny_truthy_bool ?_
   exists ⟨by simp [h32], ?_⟩
   exists from_ (Up.toks _ : Up s₃ _) fun s₄ u₄ => ?_
   have F₄ := F₃.pass u₄
   refine wpAny_execs_nil ?_
   refine wpAny_execs_cons ?_
   exists wpAny_Assign_Name ?_ (by trivial)
   exists wpAny_mono (Q := fun v s' => v = .bool (kept c) ∧ Up s₄ s') ?_ (fun v s₅ h₅ => ?_) (fun _ _ e => e)
   · have u₀ := Up.refl s₄
     exists or_b (decide (48 ≤ c) && decide (c ≤ 57)) (between (lo := 48) (hi := 57) (c := c) (by trivial) (wpAny_Constant_str ⟨⟨_, _, rfl, by decide +kernel⟩, Up.toks _, fun sa ua => n_loc ((F₄.pass (u₀)).pass ua) (by trivial) (by trivial) (by trivial) (by trivial) ⟨⟨_, _, rfl, rfl⟩, Up.refl _, fun sb ub => wpAny_Constant_str ⟨⟨_, _, rfl, by decide +kernel⟩, Up.toks _⟩⟩⟩)) (fun hb s₅ u₅ => ?_) (fun hb s₅ u₅ => ?_)
     · exact ⟨by unfold kept; rw [hb]; rfl, u₅⟩
     have u₀ := u₅
     exists or_b (decide (65 ≤ c) && decide (c ≤ 90)) (between (lo := 65) (hi := 90) (c := c) (by trivial) (wpAny_Constant_str ⟨⟨_, _, rfl, by decide +kernel⟩, Up.toks _, fun sa ua => n_loc ((F₄.pass (u₀)).pass ua) (by trivial) (by trivial) (by trivial) (by trivial) ⟨⟨_, _, rfl, rfl⟩, Up.refl _, fun sb ub => wpAny_Constant_str ⟨⟨_, _, rfl, by decide +kernel⟩, Up.toks _⟩⟩⟩)) (fun hb' s₆ u₆ => ?_) (fun hb' s₆ u₆ => ?_)
     · exact ⟨by unfold kept; rw [hb, hb']; rfl, u₅.trans u₆⟩
     have u₀ := u₅.trans u₆
     exists or_b (decide (97 ≤ c) && decide (c ≤ 122)) (between (lo := 97) (hi := 122) (c := c) (by trivial) (wpAny_Constant_str ⟨⟨_, _, rfl, by decide +kernel⟩, Up.toks _, fun sa ua => n_loc ((F₄.pass (u₀)).pass ua) (by trivial) (by trivial) (by trivial) (by trivial) ⟨⟨_, _, rfl, rfl⟩, Up.refl _, fun sb ub => wpAny_Constant_str ⟨⟨_, _, rfl, by decide +kernel⟩, Up.toks _⟩⟩⟩)) (fun hb'' s₇ u₇ => ?_) (fun hb'' s₇ u₇ => ?_)
     · exact ⟨by unfold kept; rw [hb, hb', hb'']; rfl, (u₅.trans u₆).trans u₇⟩
     exists BoolOp_one ?_
     exists wpAny_Compare1 ?_ (by trivial)
     exists n_loc ((F₄.pass u₀).pass u₇) (by trivial) (by trivial) (by trivial) (by trivial) ?_
     exists wpAny_Constant_str ?_
     exists PySem.P.in_str ?_
     refine ⟨?_, ((u₅.trans u₆).trans u₇).trans (Up.toks _)⟩
     have h1 : kept c = false := by unfold kept; rw [hb, hb', hb'']; rfl
     rw [h1]
     exact congrArg Value.bool (not_in c hc)
   refine el_A h₅ ?_; try clear h₅; intro zz0 u₅
   obtain rfl := zz0
   exists st_loc (F₄.pass u₅) (by trivial) (by trivial) (by trivial) fun s₆ F₆ hs₆ sm₆ => ?_
   have W₆ := W.keeps F₆.base
   have sms : Sm s s₆ := u.st.trans (u₂.st.trans (sm₃.trans (u₄.st.trans (u₅.st.trans sm₆))))
   refine wpAny_execs_cons ?_
   exists wpAny_Return_some ?_
   by_cases hk : kept c = true
   · exists IfExp_t ?_
     exists isTrue_v (by trivial) ?_
     exists n_loc F₆ (by trivial) (by trivial) (by trivial) (by trivial) ?_
     exists wpAny_truthy_bool ?_
     exists ⟨hk, ?_⟩
     exists n_loc F₆ (by trivial) (by trivial) (by trivial) (by trivial) ?_
     refine retD_ (R := RW) F₆ sms ?_
     unfold signOf
     rw [if_neg h32, if_pos hk]
     exact ⟨_, rfl⟩
   · exists IfExp_f ?_
     exists isTrue_v (by trivial) ?_
     exists n_loc F₆ (by trivial) (by trivial) (by trivial) (by trivial) ?_
     exists wpAny_truthy_bool ?_
     exists ⟨by simpa using hk, ?_⟩
     have hc' : c < 256 := by
       have : ∀ c ∈ ring, c < 256 := by decide
       exact this c hc
     exists wpAny_BinOp ?_
     exists wpAny_BinOp ?_
     exists wpAny_Constant_str ?_
     exists from_ (Up.toks _ : Up s₆ _) fun s₇ u₇ => ?_
     have F₇ := F₆.pass u₇
     have W₇ := W.keeps F₇.base
     exists Subscript_ ?_
     exists n_loc F₇ (by trivial) (by trivial) (by trivial) (by trivial) ?_
     exists wpAny_BinOp ?_
     exists wpAny_Call_NameR ?_
     exists n_bi W₇ (by trivial) (by trivial) (by trivial) (by trivial) (by trivial) (by decide) (W.no "ord" (by decide)) PyProof.Rows.boot_ord ?_
     exists cw_bi (by trivial) ?_
     exists sp_more (by trivial) ?_
     exists n_loc F₇ (by trivial) (by trivial) (by trivial) (by trivial) ?_
     exists spliced_none ?_
     exists ordW fun t₈ s₈ u₈ => ?_
     exists wpAny_Constant_int ?_
     exists PyProof.Rows.floordiv_int (by decide) ?_ (.inl (PyProof.noPylong_small (by decide)))
     exists from_ ((Up.toks _).trans (Up.toks _) : Up s₈ _) fun s₉ u₉ => ?_
     have e1 : Int.fdiv (c : Int) 16 = ((c / 16 : Nat) : Int) := by rw [Int.fdiv_eq_ediv_of_nonneg _ (by decide)]; rfl
     have e2 : Int.fmod (c : Int) 16 = ((c % 16 : Nat) : Int) := by rw [Int.fmod_eq_emod_of_nonneg _ (by decide)]; rfl
     have hfl : figs.length = 16 := rfl
     have g1 : figs[(Int.fdiv (c : Int) 16).toNat]? = some (figs.getD (c / 16) 0) := by
       rw [e1, Int.toNat_natCast, List.getD_eq_getElem?_getD, List.getElem?_eq_getElem (by omega)]; rfl
     have g2 : figs[(Int.fmod (c : Int) 16).toNat]? = some (figs.getD (c % 16) 0) := by
       rw [e2, Int.toNat_natCast, List.getD_eq_getElem?_getD, List.getElem?_eq_getElem (by omega)]; rfl
     exists itemS (l := figs) (by decide +kernel) (by trivial) (fun _ => (by trivial)) (by rw [e1]; omega) (by rw [e1]; omega) g1 fun t₁₀ s₁₀ u₁₀ => ?_
     exists addS (a := [61]) (by decide +kernel) rfl (by simp) fun t₁₁ s₁₁ u₁₁ => ?_
     have F₁₁ := (((F₇.pass u₈).pass u₉).pass u₁₀).pass u₁₁
     have W₁₁ := W.keeps F₁₁.base
     exists Subscript_ ?_
     exists n_loc F₁₁ (by trivial) (by trivial) (by trivial) (by trivial) ?_
     exists wpAny_BinOp ?_
     exists wpAny_Call_NameR ?_
     exists n_bi W₁₁ (by trivial) (by trivial) (by trivial) (by trivial) (by trivial) (by decide) (W.no "ord" (by decide)) PyProof.Rows.boot_ord ?_
     exists cw_bi (by trivial) ?_
     exists sp_more (by trivial) ?_
     exists n_loc F₁₁ (by trivial) (by trivial) (by trivial) (by trivial) ?_
     exists spliced_none ?_
     exists ordW fun t₁₂ s₁₂ u₁₂ => ?_
     exists wpAny_Constant_int ?_
     exists PyProof.Rows.mod_int' (by decide) ?_
     exists from_ ((Up.toks _).trans (Up.toks _) : Up s₁₂ _) fun s₁₃ u₁₃ => ?_
     exists itemS (l := figs) (by decide +kernel) (by trivial) (fun _ => (by trivial)) (by rw [e2]; omega) (by rw [e2]; omega) g2 fun t₁₄ s₁₄ u₁₄ => ?_
     exists addW (by simp) fun t₁₅ s₁₅ u₁₅ => ?_
     refine retD_ (R := RW) ((((F₁₁.pass u₁₂).pass u₁₃).pass u₁₄).pass u₁₅) (sms.trans (u₇.trans (u₈.trans (u₉.trans (u₁₀.trans (u₁₁.trans (u₁₂.trans (u₁₃.trans (u₁₄.trans u₁₅)))))))).st) ?_
     unfold signOf
     rw [if_neg h32, if_neg hk]
     exact ⟨_, rfl⟩
end
theorem room0 {A : Around} {env : Env} (h : A.depth + 1 < recursionLimit) : (A.deeper env).depth < recursionLimit := h
theorem room1 {A : Around} {env : Env} (h : A.depth + 2 < recursionLimit) : (A.deeper env).depth + 1 < recursionLimit := h
theorem room2 {A : Around} {env : Env} (h : A.depth + 3 < recursionLimit) : (A.deeper env).depth + 2 < recursionLimit := h
theorem room3 {A : Around} {env : Env} (h : A.depth + 4 < recursionLimit) : (A.deeper env).depth + 3 < recursionLimit := h
theorem room4 {A : Around} {env : Env} (h : A.depth + 5 < recursionLimit) : (A.deeper env).depth + 4 < recursionLimit := h
noncomputable def headW : List Nat := [61, 63, 113, 63, 113, 63]
noncomputable def writtenOf (l : List Nat) : List Nat := if l = [] then [] else headW ++ l.flatMap signOf ++ [63, 61]
theorem signOf_len (c : Nat) : (signOf c).length ≤ 3 := by
 unfold signOf
 split
 · simp
 · split <;> simp
theorem signs_len : ∀ l : List Nat, (l.flatMap signOf).length ≤ 3 * l.length
 | [] => by simp
 | c :: r => by
   have := signs_len r
   have := signOf_len c
   rw [List.flatMap_cons, List.length_append, List.length_cons]; omega
section
variable {prog : Program} {w : World} {A : Around} {s : Shared} {P : Adr} {mg mb : Str → Option Value}
theorem c_written {l : List Nat} {t : Tok} (hroom : A.depth + 1 < recursionLimit) (hh : A.handled = none) (W : Wd P mg mb s.heap) (hc : ∀ c ∈ l, c ∈ ring) (hl : l.length ≤ 1000) :
   codeAny (model prog w) A (.call (.ref P.written) ⟨[.str (sW l) t], []⟩) (RetD RW (writtenOf l) s) s := by
 refine enterZ (binds := [(Str.ofString "word", .str (sW l) t)]) (by omega) W.dwritten W.lim (by intros; rfl) (by rfl) (by rfl) ?_ rfl rfl rfl
 intro L cd s₁ n F u
 have W₁ := W.up u
 refine wpAny_execs_cons ?_
 exists wpAny_Return_some ?_
 by_cases hn : l = []
 · exists IfExp_f ?_
   exists isTrue_v (by trivial) ?_
   exists n_loc F (by trivial) (by trivial) (by trivial) (by trivial) ?_
   exists truthyW (by omega) fun s₂ u₂ => ?_
   exists ⟨by simp [hn], ?_⟩
   exists wpAny_Constant_str ?_
   refine retD_ (R := RW) (F.pass (u₂.trans (Up.toks _))) (u.trans (u₂.trans (Up.toks _))).st ?_
   unfold writtenOf
   rw [if_pos hn]
   exact ⟨_, congrArg (fun x => Value.str x _) ofString_empty⟩
 · exists IfExp_t ?_
   exists isTrue_v (by trivial) ?_
   exists n_loc F (by trivial) (by trivial) (by trivial) (by trivial) ?_
   exists truthyW (by omega) fun s₂ u₂ => ?_
   exists ⟨by simp [hn], ?_⟩
   exists wpAny_BinOp ?_
   exists wpAny_BinOp ?_
   exists wpAny_Constant_str ?_
   exists from_ (u₂.trans (Up.toks _) : Up s₁ _) fun s₃ u₃ => ?_
   have F₃ := F.pass u₃
   have W₃ := W₁.up u₃
   exists meth1 ab_const (by trivial) (by trivial) PySem.F.plainAttrs_str PySem.F.slot_str_join PySem.F.type_str_join ?_
   exists wpAny_Constant_str ?_
   exists ⟨typeIs_str _ _ _, str_none, ?_⟩
   exists from_ (Up.toks _ : Up s₃ _) fun s₄ u₄ => ?_
   have F₄ := F₃.pass u₄
   have W₄ := W₃.up u₄
   exists ListComp_M (β := List Nat) (by trivial) (by decide) (by trivial) (by decide) (by trivial) (fun _ => (by trivial)) ?_
   exists n_loc F₄ (by trivial) (by trivial) (by trivial) (by trivial) ?_
   exists comp_str (l := l) (R' := RW) (f := signOf) (deep_none hh _) (by rw [sizeLine_eq]; omega) ?_ ?_
   · intro i c t' C s₅ m₅ E' hi u₅ hC hns hx
     have W₅ := W₄.up u₅
     exists wpAny_Call_NameR ?_
     exists n_gl W₅ (by trivial) (by trivial) (by trivial) (by trivial) W.gsign ?_
     exists cw_def (by trivial) ?_
     exists sp_more (by trivial) ?_
     exists c_loc hns (by trivial) (by trivial) (by trivial) hx ?_
     exists spliced_none ?_
     exists ⟨W₅.dsign.fn, ?_⟩
     exists call_ret (c_sign (room0 hroom) W₅ (hc c (List.mem_of_getElem? hi))) fun v s₆ u₆ hv => ?_
     exact ⟨u₆, hv⟩
   · intro v s₅ u₅ hr
     refine el_EEAAA hr ?_; try clear hr; intro ax vs zz0 _ hpl hp
     obtain rfl := zz0
     have hsl := signs_len l
     have e : (l.map signOf).flatten = l.flatMap signOf := List.flatMap_def.symm
     exists join_words hpl hp (by rw [e]; omega) fun t' s₆ u₆ => ?_
     exists addS (a := headW) (b := l.flatMap signOf) (by decide +kernel) (by rw [e]) (by rw [show headW.length = 6 from rfl]; omega) fun t₇ s₇ u₇ => ?_
     exists wpAny_Constant_str ?_
     exists addS (a := headW ++ l.flatMap signOf) (b := [63, 61]) rfl (by decide +kernel) (by rw [List.length_append, show headW.length = 6 from rfl]; simp only [List.length_cons, List.length_nil]; omega) fun t₈ s₈ u₈ => ?_
     have us : Up s₄ s₈ := u₅.trans (u₆.trans (u₇.trans ((Up.toks _).trans u₈)))
     refine retD_ (R := RW) (F₄.pass us) (u.trans (u₃.trans (u₄.trans us))).st ?_
     unfold writtenOf
     rw [if_neg hn]
     exact ⟨_, rfl⟩
end
section
variable {prog : Program} {w : World} {A : Around} {E : Value → Shared → Prop} {env : Env} {β γ : Type}
theorem Fz.sameC {h₀ g h h' : Heap} {n : Nat} {m : Str → Option Value} {C : Addr} (F : Fz h₀ env n g h m) (hs : h.SameBut C h') (hC : n ≤ C) : Fz h₀ env n h' h' m := by
 have no : ∀ b : Nat, b < n → b ≠ C := fun b hb => Nat.ne_of_lt (Nat.lt_of_lt_of_le hb hC)
 refine ⟨fun b o e => (hs.2 b (no b (Nat.lt_of_lt_of_le (Heap.lt_size e) (Nat.le_trans F.lo (Nat.le_of_lt F.hi))))).trans (F.base b o e), F.lo, F.hi, by rw [hs.1]; exact F.top, ?_, fun x a e => ?_, F.apart, .refl _ _⟩
 · refine el_EA (F.ns) ?_; intro ml hn hm
   exact ⟨ml, hn.at' fun o e => (hs.2 _ (no _ F.hi)).trans e, hm⟩
 · refine el_AA (F.cs x a e) ?_; intro zz0 h1 h2
   refine el_EA zz0 ?_; clear zz0; intro oc e1 e2
   exact ⟨⟨oc, (hs.2 _ (no _ h2)).trans e1, e2⟩, h1, h2⟩
theorem st_locS {M : Model} {s : Shared} {x : Str} {v : Value} {h₀ g : Heap} {n : Nat} {m : Str → Option Value} {Q : Unit → Shared → Prop} (F : Fz h₀ env n g s.heap m) (hk : env.scope.kind = .function) (hl : env.kindOf x = some .local) (hcx : env.cells.lookup x = none)
   (h : ∀ s', Fz h₀ env n g s'.heap (fun y => if y = x then some v else m y) → s'.heap.objs.size = s.heap.objs.size → (∀ b, b ≠ env.locals → s'.heap.get? b = s.heap.get? b) → Sm s s' → Q () s') : wpAny M A (storeName env x v) Q E s := by
 refine el_EA (F.ns) ?_; intro ml hn hm
 refine wpAny_storeName_local hl hn (fun h' hn' hs => h _ ?_ hs.1 hs.2 ⟨rfl, rfl, rfl⟩) (by rw [hk]; rfl)
 have hL : ∀ b, okF h₀.objs.size n b → b ≠ env.locals := fun b hb q => by
   rcases hb with hb | hb
   · exact Nat.lt_irrefl _ (Nat.lt_of_lt_of_le (q ▸ hb) F.lo)
   · exact Nat.lt_irrefl _ (Nat.lt_of_lt_of_le F.hi (q ▸ hb))
 refine ⟨fun b o e => (hs.2 b (hL b (.inl (Heap.lt_size e)))).trans (F.base b o e), F.lo, F.hi, hs.1 ▸ F.top, ⟨_, hn', fun y hy => ?_⟩, fun y c hc => ?_, F.apart, fun b o hb e => (hs.2 b (hL b hb)).trans (F.keep b o hb e)⟩
 · by_cases q : y = x
   · simp [q]
   · simp [q, hm y hy]
 · refine el_AA (F.cs y c hc) ?_; intro h1 h2 h3
   have q : y ≠ x := fun q => by rw [q, hcx] at hc; cases hc
   have : (if y = x then some v else m y) = m y := if_neg q
   rw [this]
   exact ⟨h1.sameBut hs (Nat.ne_of_gt h2), h2, h3⟩
theorem Assign_ListComp_M {s : Shared} {elt iter : Expr} {x y : Str} {px py : Pos} {scope : Scope} {cl : List (Str × Addr)} {pos spos : Pos} {Q : Flow → Shared → Prop} {RR : Rel γ} {zs : γ} {h₀ g : Heap} {n : Nat} {m : Str → Option Value}
   (hsw : swapsWith (.ListComp elt [⟨.Name x px, iter, [], 0⟩] scope pos) (some (.Name y py)) spos.line env = pure true)
   (hclos : closureFor scope env = pure cl) (hcell : ∀ y ∈ scope.names, y.2 ≠ .cell) (hkind : scope.kind = .function)
   (hnames : ∀ y ∈ scope.names, y.2 = .local → scope.names.lookup y.1 = some .local) (hx : scope.names.lookup x = some .local) (hs : ∀ x, foldedSetIterable iter env x = pure x)
   (hk : env.scope.kind = .function) (hy : env.kindOf y = some .local) (hcy : env.cells.lookup y = none) (F : Fz h₀ env n g s.heap m)
   (h : wpAny (model prog w) A (eval iter env) (fun xv s₁ => Up s s₁ ∧ wpAny (model prog w) A (pyIter xv) (CompGoal prog w A env elt x scope cl β (fun v s' => Up s s' ∧ RR.r (fun a => s.heap.objs.size ≤ a) s'.heap v zs) s₁) E s₁) E s)
   (fin : ∀ v s', Fz h₀ env n s'.heap s'.heap (fun z => if z = y then some v else m z) → Sm s s' → s.heap.objs.size ≤ s'.heap.objs.size → KeepNot [env.locals] s.heap s'.heap → RR.r (fun a => s.heap.objs.size ≤ a) s'.heap v zs → Q .next s') :
   wpAny (model prog w) A (exec (.Assign [.Name y py] (.ListComp elt [⟨.Name x px, iter, [], 0⟩] scope pos) spos) env) Q E s := by
 rw [exec_Assign_Name_used _ _ _ _ hsw]
 refine wpAny_bind (wpAny_standAt (wpAny_bind ?_))
 show wpAny _ A (do let _ ← comprehension (.ListComp elt [⟨.Name x px, iter, [], 0⟩] scope pos) scope env _ (newList []) false (eval iter env) (some (assign (.Name y py) env))) _ _ s
 refine wpAny_bind (wpAny_mono (wpAny_comprehension_free (use := some (assign (.Name y py) env)) (Q := fun _ s' => Q .next s') rfl hs hclos hkind hnames
   (wpAny_mono h (fun xv s₁ ⟨u₁, h₁⟩ => wpAny_mono h₁ (fun it s₂ h₂ => ?_) fun _ _ e => e) fun _ _ e => e)) (fun _ s' hq => wpAny_pure (wpAny_pure hq)) fun _ _ e => e)
 refine el_AEEEEEEEEAAAAAA h₂ ?_; try clear h₂; intro u₂ I fp wr n' P St R' ys zz1 W hsz hst hfp hq hQ
 obtain rfl := zz1
 refine comp_block (RR := fun acc C => compPost (model prog w) A E (some (assign (.Name y py) env)) (fun _ s' => Q .next s') acc C) W hsz hcell hkind hx hst hfp hq ?_
 intro D C h' tk m' hC hCD hD hDC hCs hn ⟨vs, hl, hap, hp⟩ hk'
 have sm' : Sm s { s₂ with heap := h', toks := tk } := u₁.st.trans ⟨u₂.st.gens, u₂.st.drawn, u₂.st.os⟩
 have hz : s₂.heap.objs.size ≤ h'.objs.size := Nat.le_trans hD (Nat.le_of_lt (Nat.lt_trans hDC hCs))
 have hz0 : s.heap.objs.size ≤ s₂.heap.objs.size := Nat.le_trans u₁.size u₂.size
 have hrl : ∀ h'', KeepOn (fun a => a ≠ C) h' h'' → (RLd R').r (fun a => s₂.heap.objs.size ≤ a) h'' (.ref D) ys := fun h'' kk => ⟨D, vs, rfl, hD, hl.at fun o e => kk D o (Ne.symm hCD) e, hp h'' kk, hap⟩
 have up' : Up s { s₂ with heap := h', toks := tk } := (hQ (.ref D) { s₂ with heap := h', toks := tk } ⟨rfl, rfl, rfl⟩ hk' hz (hrl h' (.refl _ _))).1
 have hLs : env.locals < s.heap.objs.size := Nat.lt_of_lt_of_le F.hi F.top
 have hLC : env.locals ≠ C := Nat.ne_of_lt (Nat.lt_of_lt_of_le hLs (Nat.le_trans hz0 (Nat.le_trans hD (Nat.le_of_lt hDC))))
 have hCn : n ≤ C := Nat.le_trans F.top (Nat.le_trans hz0 (Nat.le_of_lt (Nat.lt_of_le_of_lt hD hDC)))
 obtain ⟨old, hold⟩ : ∃ o, h'.get? env.locals = some o := by
   refine el_EA ((F.pass up').ns) ?_; intro ml zz2 _
   refine el_EEEA zz2 ?_; clear zz2; intro o _ _ e _
   exact ⟨o, e⟩
 show wpAny _ A (assign (.Name y py) env (.ref D)) _ _ _
 refine wpAny_assign_Name ?_
 refine st_locS (s := { s₂ with heap := h', toks := tk }) (F.pass up').here hk hy hcy fun s₃ F₃ hs₃ hb₃ sm₃ => ?_
 refine ⟨m', hn.at' fun o e => (hb₃ _ (Ne.symm hLC)).trans e, fun h'' hs'' => ?_⟩
 have hbG : ∀ b, b ≠ env.locals → b ≠ C → h''.get? b = h'.get? b := fun b b1 b2 => (hs''.2 b b2).trans (hb₃ b b1)
 have holdG : ∃ o'', h''.get? env.locals = some o'' := by
   refine el_EA (F₃.ns) ?_; intro ml zz3 _
   refine el_EEEA zz3 ?_; clear zz3; intro o _ _ e _
   exact ⟨o, (hs''.2 _ hLC).trans e⟩
 refine el_E holdG ?_; try clear holdG; intro o'' ho''
 have hG1 : (h''.update env.locals fun _ => old).get? env.locals = some old := Heap.get?_update_self _ ho'' (Heap.get?_some_iff.mp hold).2
 have hG2 : ∀ b, b ≠ env.locals → (h''.update env.locals fun _ => old).get? b = h''.get? b := fun b hb => Heap.get?_update_other _ _ (Ne.symm hb)
 have kG : KeepOn (fun a => a ≠ C) h' (h''.update env.locals fun _ => old) := fun b o hb e => by
   by_cases q : b = env.locals
   · subst q; rw [hG1, ← hold, e]
   · rw [hG2 b q, hbG b q hb, e]
 have hCs₂ : s₂.heap.get? C = none := hC
 have hQG := hQ (.ref D) { s₂ with heap := h''.update env.locals fun _ => old, toks := tk } ⟨rfl, rfl, rfl⟩ (fun b o hb e => kG b o (fun q => by have q' : b = C := q; rw [q', hCs₂] at e; cases e) (hk' b o hb e))
   (by show _ ≤ (h''.update env.locals _).objs.size; rw [Heap.size_after_update, hs''.1, hs₃]; exact hz) (hrl _ kG)
 have hfin : RR.r (fun a => s.heap.objs.size ≤ a) h'' (.ref D) zs := RR.up (fun b o hb e => by rw [← hG2 b (Nat.ne_of_gt (Nat.lt_of_lt_of_le hLs hb))]; exact e) hQG.2
 refine fin (.ref D) { s₃ with heap := h'' } ?_ ⟨sm₃.gens.trans sm'.gens, sm₃.drawn.trans sm'.drawn, sm₃.os.trans sm'.os⟩ ?_ (fun b o hb e => ?_) hfin
 · have := F₃.here
   exact Fz.sameC this hs'' hCn
 · show _ ≤ h''.objs.size
   rw [hs''.1, hs₃]; exact Nat.le_trans hz0 hz
 · have b1 : b ≠ env.locals := fun q => hb (by simp [q])
   have b2 : b ≠ C := fun q => by
     have h1 : b < s.heap.objs.size := Heap.lt_size e
     have h2 : (s.heap.objs.size : Nat) ≤ C := Nat.le_trans hz0 (Nat.le_trans hD (Nat.le_of_lt hDC))
     rw [q] at h1
     exact Nat.lt_irrefl _ (Nat.lt_of_lt_of_le h1 h2)
   show h''.get? b = some o
   rw [hbG b b1 b2]
   exact up'.keep b o e
end
section
variable {prog : Program} {w : World} {A : Around} {E : Value → Shared → Prop} {s : Shared} {env : Env}
theorem for_list {h₀ g : Heap} {n : Nat} {m : Str → Option Value} {x : Str} {px : Pos} {body orelse : List Stmt} {R : Result → Shared → Prop} {ax : Addr} {vs : List Value}
   (hh : A.handled = none) (hl : s.heap.PlainList ax (List.toArray vs)) (low : Low env n) (F : Fz h₀ env n g s.heap m) (J : Nat → (Str → Option Value) → Heap → Prop) (hJ : ∀ i m h h', J i m h → KeepNot [s.heap.objs.size] h h' → J i m h')
   (hJp : ∀ o, J 0 m (s.heap.push o))
   (turn : ∀ i v s₂ m₂ (E' : Value → Shared → Prop), vs[i]? = some v → Sm s s₂ → Fz h₀ env n s₂.heap s₂.heap m₂ → J i m₂ s₂.heap → wpAny (model prog w) A (storeName env x v) (fun _ s₃ => wpAny (model prog w) A (execs body env) (fun f s₄ => match f with
     | .next | .cont => ∃ m₄ g₄, Fz h₀ env n g₄ s₄.heap m₄ ∧ Sm s s₄ ∧ (∀ b, b = s.heap.objs.size ∨ b = ax → ∀ o, s₂.heap.get? b = some o → s₄.heap.get? b = some o) ∧ J (i + 1) m₄ s₄.heap
     | .brk => R (.ok .next) s₄
     | .ret v => R (.ok (.ret v)) s₄) E' s₃) E' s₂)
   (fin : ∀ s₂ m₂ (E' : Value → Shared → Prop), Sm s s₂ → Fz h₀ env n s₂.heap s₂.heap m₂ → J vs.length m₂ s₂.heap → wpAny (model prog w) A (execs orelse env) (fun f s' => R (.ok f) s') E' s₂) :
   wpAny (model prog w) A (pyIter (.ref ax)) (fun it s₂ => codeAny (model prog w) A (.forLoop (.Name x px) it body orelse env) R s₂) E s := by
 refine wpAny_pyIter_list hl.isList ?_
 have hlt : ax < s.heap.objs.size := by obtain ⟨_, e⟩ := hl; exact Heap.lt_size e
 refine forZ (Walks.list hh _ ax (Nat.ne_of_lt hlt) (List.toArray vs)) (fun b hb => by rw [List.mem_singleton.mp hb]; exact F.top) low ⟨⟨_, Heap.get?_push_size _ rfl, rfl, rfl⟩, hl.isList.push _⟩ (F.pass' (.push _ _) (by rw [Heap.size_push]; exact Nat.le_succ _)) J (hJp _) hJ ?_ ?_
 · rintro i v s₂ m₂ E' hi hP sm F₂ hJ₂
   have hv : vs[i]? = some v := by
     have h1 : (List.toArray vs)[i]? = some v := hP
     rw [List.getElem?_toArray] at h1; exact h1
   refine wpAny_mono (turn i v s₂ m₂ E' hv ⟨sm.gens, sm.drawn, sm.os⟩ F₂ hJ₂) (fun _ s₃ h₃ => wpAny_mono h₃ (fun f s₄ h₄ => ?_) fun _ _ e => e) fun _ _ e => e
   cases f with
   | next => obtain ⟨m₄, g₄, F₄, sm₄, k₄, hJ₄⟩ := h₄; exact ⟨m₄, _, F₄, ⟨sm₄.gens, sm₄.drawn, sm₄.os⟩, fun b hb o e => k₄ b (by simpa using hb) o e, hJ₄⟩
   | cont => obtain ⟨m₄, g₄, F₄, sm₄, k₄, hJ₄⟩ := h₄; exact ⟨m₄, _, F₄, ⟨sm₄.gens, sm₄.drawn, sm₄.os⟩, fun b hb o e => k₄ b (by simpa using hb) o e, hJ₄⟩
   | brk => exact h₄
   | ret v => exact h₄
 · rintro s₂ m₂ E' sm F₂ hJ₂
   refine fin s₂ m₂ E' ⟨sm.gens, sm.drawn, sm.os⟩ F₂ ?_
   rw [List.size_toArray] at hJ₂; exact hJ₂
theorem Fz.sameX {h₀ g h h' : Heap} {n : Nat} {m : Str → Option Value} {x : Addr} (F : Fz h₀ env n g h m) (hs : h.SameBut x h') (hx : h₀.get? x = none) (hlt : x < h₀.objs.size) : Fz h₀ env n h' h' m := by
 refine ⟨fun b o e => (hs.2 b fun q => by rw [q, hx] at e; cases e).trans (F.base b o e), F.lo, F.hi, by rw [hs.1]; exact F.top, ?_, fun x' a e => ?_, F.apart, .refl _ _⟩
 · refine el_EA (F.ns) ?_; intro ml hn hm
   exact ⟨ml, hn.at' fun o e => (hs.2 _ (Nat.ne_of_gt (Nat.lt_of_lt_of_le hlt F.lo))).trans e, hm⟩
 · refine el_AA (F.cs x' a e) ?_; intro zz0 h1 h2
   refine el_EA zz0 ?_; clear zz0; intro oc e1 e2
   exact ⟨⟨oc, (hs.2 _ (Nat.ne_of_gt (Nat.lt_trans (Nat.lt_of_lt_of_le hlt F.lo) h1))).trans e1, e2⟩, h1, h2⟩
theorem any_sgn {h : Heap} {ok : Addr → Prop} (c : Nat) {vs : List Value} {l : List Nat} (p : Paired (RC.r ok h) vs l) : vs.any (isSgn c) = l.contains c := by
 induction p with
 | nil => rfl
 | @cons v d _ _ x r ih =>
   obtain ⟨t, e⟩ := x
   rw [List.any_cons, List.contains_cons, ih, e]
   congr 1
   show (sW [d] == sW [c]) = (c == d)
   rw [sW_beq]
   by_cases q : c = d
   · subst q; simp
   · have : ¬ ([d] = [c]) := fun e => q (by simpa using e.symm)
     simp [this, q]
theorem in_sgns {a : Addr} {vs : List Value} {l : List Nat} {c : Nat} {t : Tok} {Q : Value → Shared → Prop} (hl : s.heap.PlainList a (List.toArray vs)) (hp : Paired (RC.r All s.heap) vs l) (h : Q (.bool (l.contains c)) s) :
   wpAny (model prog w) A (compareOp .In (.str (sW [c]) t) (.ref a)) Q E s := by
 refine PySem.SeqAt.in_listAt (isSgn c) hl.isList (fun y hy => ?_) ?_
 · have hm : y ∈ vs := by simpa using hy
   obtain ⟨i, hi, zz1⟩ := List.getElem_of_mem hm
   obtain rfl := zz1
   refine el_EEA (paired_str hp i hi) ?_; intro d u _ h2
   rw [h2]
   exact fun _ _ _ _ hq => eqBool_str hq
 · rw [← Array.any_toList, List.toList_toArray, any_sgn c hp]; exact h
theorem del0 {a : Addr} {v : Value} {vs : List Value} {t : Tok} {Q : Unit → Shared → Prop} (hl : s.heap.PlainList a (List.toArray (v :: vs))) (hz : vs.length ≤ 1000) (h : ∀ h', h'.PlainList a (List.toArray vs) → Heap.SameBut a s.heap h' → Q () { s with heap := h' }) :
   wpAny (model prog w) A (delItem (.ref a) (.int 0 t)) Q E s := by
 refine wpAny_delItem_plain (k := 0) hl (by decide) ?_ (fun h' hl' hs => h h' ?_ hs) (by rw [sizeLine_eq, List.size_toArray, List.length_cons]; lia)
 · unfold seqIndex?
   simp
 · have : (List.toArray (v :: vs)).eraseIdxIfInBounds 0 = List.toArray vs := by
     simp
   rw [this] at hl'
   exact hl'
end
noncomputable def headC (l : List Nat) : Nat := l.headD 0
noncomputable def okHead (q : List (List Nat)) (h : Nat) : Bool := q.all fun l => !(l.tail.contains h)
noncomputable def pickC (q : List (List Nat)) : Option Nat := (q.map headC).find? (okHead q)
noncomputable def dropHead (h : Nat) (l : List Nat) : List Nat := if headC l = h then l.tail else l
noncomputable def c3 : Nat → List (List Nat) → List Nat → Option (List Nat)
 | 0, _, _ => none
 | f + 1, seqs, res => if (seqs.filter fun l => !l.isEmpty).isEmpty then some res else
   match pickC (seqs.filter fun l => !l.isEmpty) with
   | none => none
   | some h => c3 f ((seqs.filter fun l => !l.isEmpty).map (dropHead h)) (res ++ [h])
noncomputable abbrev whBody : Stmt → List Stmt
 | .While _ b _ _ => b
 | _ => []
noncomputable abbrev frBody : Stmt → List Stmt
 | .For _ _ b _ _ => b
 | _ => []
noncomputable abbrev c3body : List Stmt := whBody ((bdOf (stmtAt 5)).getD 1 (.Pass default))
noncomputable abbrev envC3 (L a : Addr) (cd : Value) : Env := envOfC (nmOf (stmtAt 5)) (scOf (stmtAt 5)) L a cd
structure St3 (ai D : Addr) (Xi : List Addr) (q : List (List Nat)) (res : List Nat) (h : Heap) : Prop where
 seqs : h.PlainList ai (List.toArray (Xi.map Value.ref))
 own : Paired (fun x l => ∃ vs, h.PlainList x (List.toArray vs) ∧ Paired (RC.r All h) vs l) Xi q
 res : ∃ vs, h.PlainList D (List.toArray vs) ∧ Paired (RC.r All h) vs res
theorem PlainList_lt {h : Heap} {a : Addr} {its : Array Value} (x : h.PlainList a its) : a < h.objs.size := by obtain ⟨_, e⟩ := x; exact Heap.lt_size e
theorem Paired.memL {α β : Type} {F : α → β → Prop} {l : List α} {r : List β} (h : Paired F l r) (x : α) (hx : x ∈ l) : ∃ y ∈ r, F x y := by
 obtain ⟨i, hi⟩ := List.mem_iff_getElem?.mp hx
 obtain ⟨y, hy, q⟩ := Paired.get' h hi
 exact ⟨y, List.mem_of_getElem? hy, q⟩
theorem Paired.impMem {α β : Type} {F G : α → β → Prop} {l : List α} {r : List β} (h : ∀ a ∈ l, ∀ b, F a b → G a b) (p : Paired F l r) : Paired G l r := by
 induction p with
 | nil => exact .nil
 | cons f _ ih => exact .cons (h _ (.head _) _ f) (ih fun a ha => h a (.tail _ ha))
theorem St3.lt {ai D : Addr} {Xi : List Addr} {q : List (List Nat)} {res : List Nat} {h : Heap} (S : St3 ai D Xi q res h) : ∀ b ∈ ai :: D :: Xi, b < h.objs.size := by
 intro b hb
 rcases List.mem_cons.mp hb with rfl | hb
 · exact PlainList_lt S.seqs
 · rcases List.mem_cons.mp hb with rfl | hb
   · obtain ⟨vs, e, _⟩ := S.res; exact PlainList_lt e
   · refine el_EAEA (Paired.memL S.own b hb) ?_; intro l _ vs e _
     exact PlainList_lt e
theorem St3.keep {ai D : Addr} {Xi : List Addr} {q : List (List Nat)} {res : List Nat} {h h' : Heap} (S : St3 ai D Xi q res h) (k : ∀ b ∈ ai :: D :: Xi, ∀ o, h.get? b = some o → h'.get? b = some o) : St3 ai D Xi q res h' := by
 refine ⟨S.seqs.at fun o e => k _ (.head _) o e, Paired.impMem (fun x hx l ⟨vs, e, p⟩ => ⟨vs, e.at fun o e => k x (.tail _ (.tail _ hx)) o e, Paired.imp (fun _ _ q => q) p⟩) S.own, ?_⟩
 refine el_EA (S.res) ?_; intro vs e p
 exact ⟨vs, e.at fun o e => k _ (.tail _ (.head _)) o e, Paired.imp (fun _ _ q => q) p⟩
theorem St3.ok {ai D : Addr} {Xi : List Addr} {q : List (List Nat)} {res : List Nat} {h h' : Heap} {b₀ n : Nat} (S : St3 ai D Xi q res h) (hok : ∀ b ∈ ai :: D :: Xi, okF b₀ n b) (k : KeepOn (okF b₀ n) h h') : St3 ai D Xi q res h' :=
 S.keep fun b hb o e => k b o (hok b hb) e
theorem keepOn_not {ok : Addr → Prop} {h h' h'' : Heap} (k : KeepOn ok h h') (k' : KeepNot [h.objs.size] h' h'') : KeepOn ok h h'' := fun b o hb e => by
 refine k' b o (fun q => ?_) (k b o hb e)
 have h2 : b = h.objs.size := by simpa using q
 have h3 := Heap.lt_size e
 rw [h2] at h3
 exact Nat.lt_irrefl _ h3
theorem rc_any {h h' : Heap} {ok ok' : Addr → Prop} {vs : List Value} {l : List Nat} (p : Paired (RC.r ok h) vs l) : Paired (RC.r ok' h') vs l := Paired.imp (fun _ _ q => q) p
section
variable {prog : Program} {w : World} {A : Around} {E : Value → Shared → Prop} {s : Shared} {L a : Addr} {cd : Value} {h₀ g : Heap} {n : Nat} {m : Str → Option Value} {ai D : Addr} {Xi : List Addr} {q : List (List Nat)} {res : List Nat} {Q : Flow → Shared → Prop}
theorem inner_loop {c : Nat} {t : Tok} (hh : A.handled = none) (low : Low (envC3 L a cd) n) (F : Fz h₀ (envC3 L a cd) n g s.heap m) (S : St3 ai D Xi q res s.heap) (hok : ∀ b ∈ ai :: D :: Xi, okF h₀.objs.size n b)
   (hms : m (Str.ofString "sequences") = some (.ref ai)) (hmr : m (Str.ofString "result") = some (.ref D)) (hmc : m (Str.ofString "candidate") = some (.str (sW [c]) t)) (hz' : ∀ l ∈ q, l.length ≤ 100)
   (h1 : ∀ s' m' g' t', okHead q c = true → Fz h₀ (envC3 L a cd) n g' s'.heap m' → Sm s s' → KeepOn (okF h₀.objs.size n) s.heap s'.heap → m' (Str.ofString "sequences") = some (.ref ai) → m' (Str.ofString "result") = some (.ref D) → m' (Str.ofString "candidate") = some (.str (sW [c]) t') → Q .brk s')
   (h2 : ∀ s' m' g', okHead q c = false → Fz h₀ (envC3 L a cd) n g' s'.heap m' → Sm s s' → KeepOn (okF h₀.objs.size n) s.heap s'.heap → m' (Str.ofString "sequences") = some (.ref ai) → m' (Str.ofString "result") = some (.ref D) → m' (Str.ofString "candidate") = some .none → Q .next s') :
   wpAny (model prog w) A (exec ((frBody (c3body.getD 2 (.Pass default))).getD 1 (.Pass default)) (envC3 L a cd)) Q E s := by
 refine wpAny_For ?_ (fun _ => (by trivial))
 exists n_loc F (by trivial) (by trivial) (by trivial) hms ?_
 have hql : Xi.length = q.length := Paired.length S.own
 exists for_list hh S.seqs low F (fun j m h => KeepOn (okF h₀.objs.size n) s.heap h ∧ m (Str.ofString "sequences") = some (.ref ai) ∧ m (Str.ofString "result") = some (.ref D) ∧ m (Str.ofString "candidate") = some (.str (sW [c]) t) ∧ okHead q c = (q.drop j).all (fun l => !(l.tail.contains c))) ?_ ?_ ?_ ?_
 · intro i m h h' zzM17_65_4 k
   refine el_A zzM17_65_4 ?_; clear zzM17_65_4; intro k' r
   exact ⟨keepOn_not k' k, r⟩
 · exact fun o => ⟨(Keep.push _ _).on, hms, hmr, hmc, rfl⟩
 · intro i v s₂ m₂ E' hv sm F₂ zzM17_68_8
   refine el_AAAA zzM17_68_8 ?_; clear zzM17_68_8; intro k₂ e1 e2 e3 e4
   rw [List.getElem?_map] at hv
   refine el_EA (Option.map_eq_some_iff.mp hv) ?_; intro x hx zz0
   obtain rfl := zz0
   have S₂ := S.ok hok k₂
   have hil : i < q.length := by have := (List.getElem?_eq_some_iff.mp hx).1; omega
   refine el_EAEA (Paired.get S₂.own (List.getElem?_eq_getElem hil)) ?_; intro x' hx' vs hpl hp
   obtain rfl : x' = x := Option.some.inj (hx'.symm.trans hx)
   have hlen := Paired.length hp
   have hzi := hz' q[i] (List.getElem_mem hil)
   exists st_loc F₂ (by trivial) (by trivial) (by trivial) fun s₃ F₃ hs₃ sm₃ => ?_
   have k1 := upd_ne (x := Str.ofString "s2") (u := some (.ref x')) (by decide) e1
   have k2 := upd_ne (x := Str.ofString "s2") (u := some (.ref x')) (by decide) e2
   have k3 := upd_ne (x := Str.ofString "s2") (u := some (.ref x')) (by decide) e3
   have k₃ : KeepOn (okF h₀.objs.size n) s.heap s₃.heap := k₂.trans F₃.keep
   have hok' : okF h₀.objs.size n x' := hok x' (.tail _ (.tail _ (List.mem_of_getElem? hx)))
   have hpl₃ : s₃.heap.PlainList x' (List.toArray vs) := hpl.at fun o e => F₃.keep _ o hok' e
   rw [List.drop_eq_getElem_cons hil, List.all_cons] at e4
   refine wpAny_execs_cons ?_
   by_cases hc : q[i].tail.contains c = true
   · exists If_t ?_
     exists wpAny_isTrue_Compare1 ?_ (by trivial)
     exists n_loc F₃ (by trivial) (by trivial) (by trivial) k3 ?_
     exists cutL (fun _ _ => (by trivial)) ?_
     exists n_loc F₃ (by trivial) (by trivial) (by trivial) upd_eq ?_
     exists evalPart_some_step ?_
     exists wpAny_Constant_int ?_
     exists from_ (Up.toks _ : Up s₃ _) fun s₄ u₄ => ?_
     exists evalPart_none_step ?_
     exists ⟨x', vs, some ((1 : Nat) : Int), none, rfl, plUp hpl₃ u₄, (by omega), .int _ _, .none, fun B s₅ u₅ hB hl₅ => ?_⟩
     rw [PySem.slicePick_from', List.toList_toArray] at hl₅
     exists in_sgns hl₅ (rc_any (Paired.drop 1 hp)) ?_
     exists wpAny_truthy_bool ?_
     exists ⟨?_, ?_⟩
     · rw [List.drop_one]; exact hc
     have F₅ := (F₃.pass u₄).pass u₅
     refine wpAny_execs_cons ?_
     exists wpAny_Assign_Name ?_ (by trivial)
     exists wpAny_Constant_none ?_
     exists st_loc F₅ (by trivial) (by trivial) (by trivial) fun s₆ F₆ hs₆ sm₆ => ?_
     refine wpAny_execs_cons ?_
     refine wpAny_Break ?_
     have hno : okHead q c = false := by rw [e4, hc]; rfl
     refine h2 s₆ _ _ hno F₆ (sm.trans (sm₃.trans (u₄.st.trans (u₅.st.trans sm₆)))) (k₂.trans F₆.keep) ?_ ?_ upd_eq
     · exact upd_ne (by decide) k1
     · exact upd_ne (by decide) k2
   · exists If_f ?_
     exists wpAny_isTrue_Compare1 ?_ (by trivial)
     exists n_loc F₃ (by trivial) (by trivial) (by trivial) k3 ?_
     exists cutL (fun _ _ => (by trivial)) ?_
     exists n_loc F₃ (by trivial) (by trivial) (by trivial) upd_eq ?_
     exists evalPart_some_step ?_
     exists wpAny_Constant_int ?_
     exists from_ (Up.toks _ : Up s₃ _) fun s₄ u₄ => ?_
     exists evalPart_none_step ?_
     exists ⟨x', vs, some ((1 : Nat) : Int), none, rfl, plUp hpl₃ u₄, (by omega), .int _ _, .none, fun B s₅ u₅ hB hl₅ => ?_⟩
     rw [PySem.slicePick_from', List.toList_toArray] at hl₅
     exists in_sgns hl₅ (rc_any (Paired.drop 1 hp)) ?_
     exists wpAny_truthy_bool ?_
     exists ⟨?_, ?_⟩
     · rw [List.drop_one]; simpa using hc
     have F₅ := (F₃.pass u₄).pass u₅
     refine wpAny_execs_nil ?_
     refine wpAny_execs_nil ?_
     refine ⟨_, _, F₅, sm.trans (sm₃.trans (u₄.st.trans u₅.st)), fun b hb o e => F₅.keep b o ?_ e, k₂.trans F₅.keep, k1, k2, k3, ?_⟩
     · rcases hb with rfl | rfl
       · exact .inr F.top
       · exact hok _ (.head _)
     · rw [e4]
       have : q[i].tail.contains c = false := by simpa using hc
       rw [this]; rfl
 · intro s₂ m₂ E' sm F₂ zzM17_138_5
   refine el_AAAA zzM17_138_5 ?_; clear zzM17_138_5; intro k₂ e1 e2 e3 e4
   refine wpAny_execs_cons ?_
   refine wpAny_Break ?_
   refine h1 s₂ _ _ _ ?_ F₂ sm k₂ e1 e2 e3
   rw [e4, List.length_map, hql, List.drop_length]; rfl
end
section
variable {prog : Program} {w : World} {A : Around} {E : Value → Shared → Prop} {s : Shared} {L a : Addr} {cd : Value} {h₀ g : Heap} {n : Nat} {m : Str → Option Value} {ai D : Addr} {Xi : List Addr} {q : List (List Nat)} {res : List Nat} {Q : Flow → Shared → Prop}
theorem pick_loop (hh : A.handled = none) (low : Low (envC3 L a cd) n) (F : Fz h₀ (envC3 L a cd) n g s.heap m) (S : St3 ai D Xi q res s.heap) (hok : ∀ b ∈ ai :: D :: Xi, okF h₀.objs.size n b)
   (hms : m (Str.ofString "sequences") = some (.ref ai)) (hmr : m (Str.ofString "result") = some (.ref D)) (hz' : ∀ l ∈ q, l.length ≤ 100) (hne : ∀ l ∈ q, l ≠ []) (hq : q ≠ [])
   (h1 : ∀ s' m' g' c t', pickC q = some c → Fz h₀ (envC3 L a cd) n g' s'.heap m' → Sm s s' → KeepOn (okF h₀.objs.size n) s.heap s'.heap → m' (Str.ofString "sequences") = some (.ref ai) → m' (Str.ofString "result") = some (.ref D) → m' (Str.ofString "candidate") = some (.str (sW [c]) t') → Q .next s')
   (h2 : ∀ s' m' g', pickC q = none → Fz h₀ (envC3 L a cd) n g' s'.heap m' → Sm s s' → KeepOn (okF h₀.objs.size n) s.heap s'.heap → m' (Str.ofString "sequences") = some (.ref ai) → m' (Str.ofString "result") = some (.ref D) → m' (Str.ofString "candidate") = some .none → Q .next s') :
   wpAny (model prog w) A (exec (c3body.getD 2 (.Pass default)) (envC3 L a cd)) Q E s := by
 refine wpAny_For ?_ (fun _ => (by trivial))
 exists n_loc F (by trivial) (by trivial) (by trivial) hms ?_
 have hql : Xi.length = q.length := Paired.length S.own
 exists for_list hh S.seqs low F (fun j m h => KeepOn (okF h₀.objs.size n) s.heap h ∧ m (Str.ofString "sequences") = some (.ref ai) ∧ m (Str.ofString "result") = some (.ref D) ∧ (0 < j → m (Str.ofString "candidate") = some .none) ∧ pickC q = ((q.map headC).drop j).find? (okHead q)) ?_ ?_ ?_ ?_
 · intro i m h h' zzM18_18_4 k
   refine el_A zzM18_18_4 ?_; clear zzM18_18_4; intro k' r
   exact ⟨keepOn_not k' k, r⟩
 · exact fun o => ⟨(Keep.push _ _).on, hms, hmr, fun h => absurd h (Nat.lt_irrefl _), rfl⟩
 · intro i v s₂ m₂ E' hv sm F₂ zzM18_21_8
   refine el_AAAA zzM18_21_8 ?_; clear zzM18_21_8; intro k₂ e1 e2 e3 e4
   rw [List.getElem?_map] at hv
   refine el_EA (Option.map_eq_some_iff.mp hv) ?_; intro x hx zz0
   obtain rfl := zz0
   have S₂ := S.ok hok k₂
   have hil : i < q.length := by have := (List.getElem?_eq_some_iff.mp hx).1; omega
   refine el_EAEA (Paired.get S₂.own (List.getElem?_eq_getElem hil)) ?_; intro x' hx' vs hpl hp
   obtain rfl : x' = x := Option.some.inj (hx'.symm.trans hx)
   have hzi := hz' q[i] (List.getElem_mem hil)
   have hnei := hne q[i] (List.getElem_mem hil)
   have hlen := Paired.length hp
   have hhd : headC q[i] = (q.map headC)[i]'(by rw [List.length_map]; exact hil) := by rw [List.getElem_map]
   rw [List.drop_eq_getElem_cons (by rw [List.length_map]; exact hil), ← hhd, List.find?_cons] at e4
   generalize hqi : q[i] = qi at hp hzi hnei hlen e4
   cases hp with
   | nil => exact absurd rfl hnei
   | @cons v c vs' r ht hp' =>
   refine el_E ht ?_; try clear ht; intro t zz1
   obtain rfl := zz1
   exists st_loc F₂ (by trivial) (by trivial) (by trivial) fun s₃ F₃ hs₃ sm₃ => ?_
   have k1 := upd_ne (x := Str.ofString "s1") (u := some (.ref x')) (by decide) e1
   have k2 := upd_ne (x := Str.ofString "s1") (u := some (.ref x')) (by decide) e2
   have k₃ : KeepOn (okF h₀.objs.size n) s.heap s₃.heap := k₂.trans F₃.keep
   have hok' : okF h₀.objs.size n x' := hok x' (.tail _ (.tail _ (List.mem_of_getElem? hx)))
   have hpl₃ : s₃.heap.PlainList x' (List.toArray (.str (sW [c]) t :: vs')) := hpl.at fun o e => F₃.keep _ o hok' e
   refine wpAny_execs_cons ?_
   exists wpAny_Assign_Name ?_ (by trivial)
   exists Subscript_ ?_
   exists n_loc F₃ (by trivial) (by trivial) (by trivial) upd_eq ?_
   exists wpAny_Constant_int ?_
   exists from_ (Up.toks _ : Up s₃ _) fun s₄ u₄ => ?_
   exists item_ (plUp hpl₃ u₄) (by trivial) (by decide) (by decide) (v := .str (sW [c]) t) (by trivial) ?_
   exists st_loc (F₃.pass u₄) (by trivial) (by trivial) (by trivial) fun s₅ F₅ hs₅ sm₅ => ?_
   have k₅ : KeepOn (okF h₀.objs.size n) s₂.heap s₅.heap := F₅.keep
   refine wpAny_execs_cons ?_
   refine inner_loop (c := c) (t := t) hh low F₅ (S.ok hok (k₂.trans k₅)) hok (upd_ne (by decide) k1) (upd_ne (by decide) k2) upd_eq hz' ?_ ?_
   · intro s' m' g' t' ht F' sm' k' f1 f2 f3
     refine h1 s' m' g' c t' ?_ F' (sm.trans (sm₃.trans (u₄.st.trans (sm₅.trans sm')))) ((k₂.trans k₅).trans k') f1 f2 f3
     rw [e4, show headC (c :: r) = c from rfl, ht]
   · intro s' m' g' ht F' sm' k' f1 f2 f3
     refine wpAny_execs_nil ?_
     refine ⟨m', g', F', sm.trans (sm₃.trans (u₄.st.trans (sm₅.trans sm'))), fun b hb o e => (k₅.trans k') b o ?_ e, (k₂.trans k₅).trans k', f1, f2, fun _ => f3, ?_⟩
     · rcases hb with rfl | rfl
       · exact .inr F.top
       · exact hok _ (.head _)
     · rw [e4, show headC (c :: r) = c from rfl, ht]
 · intro s₂ m₂ E' sm F₂ zzM18_65_5
   refine el_AAAA zzM18_65_5 ?_; clear zzM18_65_5; intro k₂ e1 e2 e3 e4
   refine wpAny_execs_nil ?_
   have hl : (Xi.map Value.ref).length = (q.map headC).length := by rw [List.length_map, List.length_map, hql]
   have hpos : 0 < (Xi.map Value.ref).length := by rw [hl, List.length_map]; exact List.length_pos_iff.mpr hq
   rw [hl, List.drop_length] at e4
   exact h2 s₂ _ _ e4 F₂ sm k₂ e1 e2 (e3 hpos)
end
theorem Paired.of_get {α β : Type} {F : α → β → Prop} {l : List α} {r : List β} (h : l.length = r.length) (f : ∀ (i : Nat) a b, l[i]? = some a → r[i]? = some b → F a b) : Paired F l r := by
 induction l generalizing r with
 | nil => cases r with
   | nil => exact .nil
   | cons => cases h
 | cons a l ih => cases r with
   | nil => cases h
   | cons b r => exact .cons (f 0 a b rfl rfl) (ih (Nat.succ.inj h) fun i a b e1 e2 => f (i + 1) a b e1 e2)
theorem Paired.both {α β : Type} {F : α → β → Prop} {l : List α} {r : List β} {i : Nat} {a : α} {b : β} (h : Paired F l r) (h1 : l[i]? = some a) (h2 : r[i]? = some b) : F a b := by
 refine el_EA (Paired.get h h2) ?_; intro v e f
 rw [h1] at e; cases e; exact f
noncomputable def someDone (c : Nat) (q : List (List Nat)) (j : Nat) : List (List Nat) := (q.take j).map (dropHead c) ++ q.drop j
theorem someDone_len (c : Nat) (q : List (List Nat)) (j : Nat) (h : j ≤ q.length) : (someDone c q j).length = q.length := by
 unfold someDone
 rw [List.length_append, List.length_map, List.length_take, List.length_drop]; lia
theorem someDone_at {c : Nat} {q : List (List Nat)} {j : Nat} (h : j < q.length) : (someDone c q j)[j]? = some q[j] := by
 unfold someDone
 rw [List.getElem?_append_right (by simp; lia)]
 simp
 rw [List.getElem?_eq_getElem (by lia)]
 congr 1
 congr 1
 lia
theorem someDone_succ {c : Nat} {q : List (List Nat)} {j : Nat} (h : j < q.length) (k : Nat) : (someDone c q (j + 1))[k]? = if k = j then some (dropHead c q[j]) else (someDone c q j)[k]? := by
 unfold someDone
 by_cases hk : k < j
 · rw [if_neg (by lia), List.getElem?_append_left (by simp; lia), List.getElem?_append_left (by simp; lia), List.getElem?_map, List.getElem?_map, List.getElem?_take_of_lt (by lia), List.getElem?_take_of_lt hk]
 · by_cases hj : k = j
   · subst hj
     rw [if_pos rfl, List.getElem?_append_left (by simp; lia), List.getElem?_map, List.getElem?_take_of_lt (by lia), List.getElem?_eq_getElem h]; rfl
   · rw [if_neg hj, List.getElem?_append_right (by simp; lia), List.getElem?_append_right (by simp; lia), List.getElem?_drop, List.getElem?_drop]
     congr 1
     simp
     lia
section
variable {prog : Program} {w : World} {A : Around} {E : Value → Shared → Prop} {s : Shared} {L a : Addr} {cd : Value} {h₀ g : Heap} {n : Nat} {m : Str → Option Value} {ai D : Addr} {Xi : List Addr} {q : List (List Nat)} {res : List Nat} {Q : Flow → Shared → Prop}
theorem del_loop {c : Nat} {t : Tok} (hh : A.handled = none) (low : Low (envC3 L a cd) n) (F : Fz h₀ (envC3 L a cd) n g s.heap m) (S : St3 ai D Xi q res s.heap) (hok : ∀ b ∈ ai :: D :: Xi, okF h₀.objs.size n b)
   (hX : ∀ x ∈ Xi, x < h₀.objs.size ∧ h₀.get? x = none) (hnd : Xi.Nodup) (hai : ai ∉ Xi) (hD : D ∉ Xi)
   (hms : m (Str.ofString "sequences") = some (.ref ai)) (hmr : m (Str.ofString "result") = some (.ref D)) (hmc : m (Str.ofString "candidate") = some (.str (sW [c]) t)) (hz' : ∀ l ∈ q, l.length ≤ 100) (hne : ∀ l ∈ q, l ≠ [])
   (h1 : ∀ s' m' g', Fz h₀ (envC3 L a cd) n g' s'.heap m' → Sm s s' → KeepOn (fun b => okF h₀.objs.size n b ∧ b ∉ Xi) s.heap s'.heap → St3 ai D Xi (q.map (dropHead c)) res s'.heap → m' (Str.ofString "sequences") = some (.ref ai) → m' (Str.ofString "result") = some (.ref D) → Q .next s') :
   wpAny (model prog w) A (exec (c3body.getD 5 (.Pass default)) (envC3 L a cd)) Q E s := by
 refine wpAny_For ?_ (fun _ => (by trivial))
 exists n_loc F (by trivial) (by trivial) (by trivial) hms ?_
 have hql : Xi.length = q.length := Paired.length S.own
 have hlts := S.lt
 exists for_list hh S.seqs low F (fun j m h => KeepOn (fun b => okF h₀.objs.size n b ∧ b ∉ Xi) s.heap h ∧ St3 ai D Xi (someDone c q j) res h ∧ m (Str.ofString "sequences") = some (.ref ai) ∧ m (Str.ofString "result") = some (.ref D) ∧ m (Str.ofString "candidate") = some (.str (sW [c]) t)) ?_ ?_ ?_ ?_
 · intro i m h h' zzM19_52_4 k
   refine el_AA zzM19_52_4 ?_; clear zzM19_52_4; intro k' S' r
   exact ⟨keepOn_not k' k, S'.keep (fun b hb o e => k b o (by have := hlts b hb; simpa using Nat.ne_of_lt this) e), r⟩
 · exact fun o => ⟨(Keep.push _ _).on, S.keep fun b _ o e => Heap.get?_push_of_some _ e, hms, hmr, hmc⟩
 · intro i v s₂ m₂ E' hv sm F₂ zzM19_55_8
   refine el_AAAA zzM19_55_8 ?_; clear zzM19_55_8; intro k₂ S₂ e1 e2 e3
   rw [List.getElem?_map] at hv
   refine el_EA (Option.map_eq_some_iff.mp hv) ?_; intro x hx zz0
   obtain rfl := zz0
   have hxm : x ∈ Xi := List.mem_of_getElem? hx
   have hil : i < q.length := by have := (List.getElem?_eq_some_iff.mp hx).1; lia
   refine el_EA (Paired.both S₂.own hx (someDone_at (c := c) hil)) ?_; intro vs hpl hp
   have hzi := hz' q[i] (List.getElem_mem hil)
   have hnei := hne q[i] (List.getElem_mem hil)
   have hlen := Paired.length hp
   have hsucc := someDone_succ (c := c) hil
   generalize hqi : q[i] = qi at hp hzi hnei hlen hsucc
   cases hp with
   | nil => exact absurd rfl hnei
   | @cons v d vs' r ht hp' =>
   refine el_E ht ?_; try clear ht; intro td zz1
   obtain rfl := zz1
   have hls := someDone_len c q (i + 1) (by lia)
   exists st_loc F₂ (by trivial) (by trivial) (by trivial) fun s₃ F₃ hs₃ sm₃ => ?_
   have k1 := upd_ne (x := Str.ofString "seq") (u := some (.ref x)) (by decide) e1
   have k2 := upd_ne (x := Str.ofString "seq") (u := some (.ref x)) (by decide) e2
   have k3 := upd_ne (x := Str.ofString "seq") (u := some (.ref x)) (by decide) e3
   have hok' : okF h₀.objs.size n x := hok x (.tail _ (.tail _ hxm))
   have S₃ := S₂.ok hok F₃.keep
   have hpl₃ : s₃.heap.PlainList x (List.toArray (.str (sW [d]) td :: vs')) := hpl.at fun o e => F₃.keep _ o hok' e
   refine wpAny_execs_cons ?_
   by_cases hc : d = c
   · exists If_t ?_
     exists wpAny_isTrue_Compare1 ?_ (by trivial)
     exists Subscript_ ?_
     exists n_loc F₃ (by trivial) (by trivial) (by trivial) upd_eq ?_
     exists wpAny_Constant_int ?_
     exists from_ (Up.toks _ : Up s₃ _) fun s₄ u₄ => ?_
     exists item_ (plUp hpl₃ u₄) (by trivial) (by decide) (by decide) (v := .str (sW [d]) td) (by trivial) ?_
     have F₄ := F₃.pass u₄
     exists n_loc F₄ (by trivial) (by trivial) (by trivial) k3 ?_
     exists eqW ?_
     exists wpAny_truthy_bool ?_
     exists ⟨by simp [hc], ?_⟩
     refine wpAny_execs_cons ?_
     refine wpAny_Delete ?_
     refine wpAny_deleteEach_cons ?_
     exists wpAny_delete_Subscript ?_
     exists n_loc F₄ (by trivial) (by trivial) (by trivial) upd_eq ?_
     exists wpAny_Constant_int ?_
     exists from_ (Up.toks _ : Up s₄ _) fun s₅ u₅ => ?_
     refine del0 (plUp hpl₃ (u₄.trans u₅)) (by simp at hlen; simp at hzi; lia) fun h' hl' hs' => ?_
     refine wpAny_deleteEach_nil ?_
     refine wpAny_execs_nil ?_
     refine wpAny_execs_nil ?_
     have F₅ := F₄.pass u₅
     have F₆ := F₅.sameX hs' (hX x hxm).2 (hX x hxm).1
     have kk : ∀ b, b ≠ x → ∀ o, okF h₀.objs.size n b → s₂.heap.get? b = some o → h'.get? b = some o := fun b hb o ho e => (hs'.2 b hb).trans (F₅.keep b o ho e)
     have hsx : (s.heap.objs.size : Nat) ≠ x := Nat.ne_of_gt (hlts x (.tail _ (.tail _ hxm)))
     refine ⟨_, _, F₆, sm.trans (sm₃.trans (u₄.st.trans ⟨u₅.st.gens, u₅.st.drawn, u₅.st.os⟩)), fun b hb o e => kk b ?_ o ?_ e, fun b o hb e => kk b ?_ o hb.1 (k₂ b o hb e), ?_, k1, k2, k3⟩
     · rcases hb with rfl | rfl
       · exact hsx
       · exact fun q => hai (q ▸ hxm)
     · rcases hb with rfl | rfl
       · exact .inr F.top
       · exact hok _ (.head _)
     · exact fun q => hb.2 (q ▸ hxm)
     · refine ⟨S₂.seqs.at fun o e => kk ai (fun q => hai (q ▸ hxm)) o (hok _ (.head _)) e, Paired.of_get (by rw [hls, hql]) fun k y l h1 h2 => ?_, ?_⟩
       · rw [hsucc] at h2
         by_cases hki : k = i
         · subst hki
           rw [if_pos rfl] at h2
           cases h2
           obtain rfl : x = y := Option.some.inj (hx.symm.trans h1)
           have e9 : dropHead c (d :: r) = r := by
             unfold dropHead
             rw [if_pos (show headC (d :: r) = c from hc)]; rfl
           rw [e9]
           exact ⟨vs', hl', rc_any hp'⟩
         · rw [if_neg hki] at h2
           refine el_EA (Paired.both S₂.own h1 h2) ?_; intro ws hw hpw
           have hym : y ∈ Xi := List.mem_of_getElem? h1
           refine ⟨ws, hw.at fun o e => kk y (fun q => hki ?_) o (hok y (.tail _ (.tail _ hym))) e, rc_any hpw⟩
           exact (List.getElem?_inj (List.getElem?_eq_some_iff.mp h1).1 hnd).mp (by rw [h1, hx, q])
       · refine el_EA (S₂.res) ?_; intro ws hw hpw
         exact ⟨ws, hw.at fun o e => kk D (fun q => hD (q ▸ hxm)) o (hok D (.tail _ (.head _))) e, rc_any hpw⟩
   · exists If_f ?_
     exists wpAny_isTrue_Compare1 ?_ (by trivial)
     exists Subscript_ ?_
     exists n_loc F₃ (by trivial) (by trivial) (by trivial) upd_eq ?_
     exists wpAny_Constant_int ?_
     exists from_ (Up.toks _ : Up s₃ _) fun s₄ u₄ => ?_
     exists item_ (plUp hpl₃ u₄) (by trivial) (by decide) (by decide) (v := .str (sW [d]) td) (by trivial) ?_
     have F₄ := F₃.pass u₄
     exists n_loc F₄ (by trivial) (by trivial) (by trivial) k3 ?_
     exists eqW ?_
     exists wpAny_truthy_bool ?_
     exists ⟨by simpa using hc, ?_⟩
     refine wpAny_execs_nil ?_
     refine wpAny_execs_nil ?_
     refine ⟨_, _, F₄, sm.trans (sm₃.trans u₄.st), fun b hb o e => F₄.keep b o ?_ e, fun b o hb e => F₄.keep b o hb.1 (k₂ b o hb e), ?_, k1, k2, k3⟩
     · rcases hb with rfl | rfl
       · exact .inr F.top
       · exact hok _ (.head _)
     · have S₄ := S₂.ok hok F₄.keep
       refine ⟨S₄.seqs, Paired.of_get (by rw [hls, hql]) fun k y l h1 h2 => ?_, S₄.res⟩
       rw [hsucc] at h2
       by_cases hki : k = i
       · subst hki
         rw [if_pos rfl] at h2
         cases h2
         have h3 := someDone_at (c := c) hil
         rw [hqi] at h3
         have := Paired.both S₄.own h1 h3
         unfold dropHead
         rw [if_neg (show ¬ headC (d :: r) = c from hc)]
         exact this
       · rw [if_neg hki] at h2
         exact Paired.both S₄.own h1 h2
 · intro s₂ m₂ E' sm F₂ zzM19_167_5
   refine el_AAAA zzM19_167_5 ?_; clear zzM19_167_5; intro k₂ S₂ e1 e2 e3
   refine wpAny_execs_nil ?_
   refine h1 s₂ _ _ F₂ sm k₂ ?_ e1 e2
   have : someDone c q (Xi.map Value.ref).length = q.map (dropHead c) := by
     unfold someDone
     rw [List.length_map, hql, List.take_length, List.drop_length, List.append_nil]
   rw [← this]; exact S₂
end
noncomputable abbrev frs (l : List Env) : List Addr := l.filterMap (·.frame)
theorem frames_hide {base h : Heap} {as : List Addr} : ∀ {l : List Env}, h.FunFrames base l → (∀ env ∈ l, ∀ a, env.frame = some a → a ∈ as) → h.FunFrames (hideAll h as) l := PySem.W.funFrames_hide
theorem upS_refl (h : Heap) : h.UpToSlots h := fun _ o e _ => ⟨o.slots, e⟩
section
variable {M : Model} {A : Around} {E : Value → Shared → Prop} {s : Shared}
theorem note_first {env : Env} {outer : List Env} {L e t : Addr} {oe : Obj} {vs : Array Value} {B : Heap} {Q : Unit → Shared → Prop} (hfr : A.frames = some (env :: outer)) (hf : env.frame = some L)
   (hkb : B.StaysIn s.heap) (hl : s.heap.FunFrames B (env :: outer)) (he : s.heap.get? e = some oe) (hen : B.get? e = none) (hd : oe.data = .fields vs) (h0 : vs[0]? = some (.ref t)) (h1 : vs[1]? = some .none)
   (hQ : ∀ h', Heap.HeldW B (env :: outer) e oe.cls (.ref t) L h' → s.heap.UpToSlots h' → Q () { s with heap := h' }) : wpAny M A (noteFrame (.ref e) env) Q E s := by
 unfold noteFrame
 simp only [hf]
 refine wpAny_bind (wpAny_field he hd h1 ?_)
 rw [if_neg (by decide)]
 refine wpAny_entryW hfr hl hf he hkb hen hd (Array.getElem?_eq_some_iff.mp h1).1 h0 fun h' ⟨k1, k2, k3, k4⟩ => hQ h' ⟨k1, hen, k2, k3⟩ k4
theorem came_back {env : Env} {l : List Env} {L e : Addr} {cls a0 : Value} {B : Heap} (hf : env.frame = some L) (hh : Heap.HeldW B l e cls a0 L s.heap)
   (hQ : ∀ h', Heap.HeldW B l e cls a0 L h' → s.heap.UpToSlots h' → E (.ref e) { s with heap := h' }) : cameBackBy M A env E (.ref e) s := by
 refine el_AAAEEEEEAAAAAAAA hh ?_; try clear hh; intro f1 f2 f3 oe vs T oT ts he hcls hd h1 hnT hTe hT hdT h3
 unfold cameBackBy
 refine wpAny_bind (wpAny_field he hd h1 ?_)
 have hne : (Value.ref T == Value.none) = false := rfl
 rw [hne]
 unfold setFlight
 rw [hf]
 have hsz3 : 3 < ts.size := (Array.getElem?_eq_some_iff.mp h3).1
 have other : ∀ b, b ≠ T → (s.heap.update T (Obj.mapFields (·.setIfInBounds 3 (rawInt L)))).get? b = s.heap.get? b := fun b hb => Heap.get?_update_other _ _ (Ne.symm hb)
 have noRecord : ∀ b o, s.heap.get? b = some o → (∀ vs, o.data ≠ .fields vs) → b ≠ T := fun b o hb hnf q => by
   rw [q, hT] at hb; injection hb with hb; subst hb; exact hnf ts hdT
 have hd' := Obj.data_mapFields hdT (·.setIfInBounds 3 (rawInt L))
 have fin : wpAny M A (setField (.ref T) 3 (rawInt L)) (fun _ s'' => E (.ref e) s'') E s := by
   refine wpAny_setField hT hdT hsz3 ?_
   refine hQ _ ⟨fun b o hbo => (other b fun q => by rw [q, hnT] at hbo; cases hbo).trans (f1 b o hbo), f2, f3.of_keeps fun b o hb hnf => ⟨o, (other b (noRecord b o hb hnf)).trans hb, rfl⟩, oe, vs, T, _, _, (other e (Ne.symm hTe)).trans he, hcls, hd, h1, hnT, hTe,
     Heap.get?_update_self _ hT (Obj.isFreed_of_fields hd'), hd', by simp [hsz3]⟩ fun b o hb hnf => ⟨o.slots, (other b (noRecord b o hb hnf)).trans hb⟩
 refine wpAny_bind (wpAny_field he hd h1 ?_)
 rw [if_pos (show (Value.ref T != Value.none) = true from rfl)]
 exact fin
theorem leaves_held {env : Env} {outer : List Env} {L e : Addr} {cls a0 : Value} {B : Heap} {Q : Unit → Shared → Prop} (hf : env.frame = some L)
   (hh : Heap.HeldW B (env :: outer) e cls a0 L s.heap) (hQ : ∀ h', Heap.FlyingW B outer e cls a0 h' → s.heap.UpToSlots h' → Q () { s with heap := h' }) : wpAny M A (leaving env (.ref e)) Q E s := by
 unfold leaving
 refine wpAny_bind (wpAny_noteFrame_againW hf hh.2.2.2 ?_)
 refine wpAny_landsW hh fun h' hfl hu => ?_
 refine el_AAA hfl ?_; try clear hfl; intro k1 k2 zz0 k4
 refine el_AA zz0 ?_; clear zz0; intro _ _ k3
 exact hQ h' ⟨k1, k2, k3, k4⟩ hu
theorem raise_leave {env : Env} {outer : List Env} {L e t : Addr} {cls : Value} {Q : Value → Shared → Prop} {E' : Value → Shared → Prop} (hfr : A.frames = some (env :: outer)) (hf : env.frame = some L)
   (hl : s.heap.FunFrames {} (env :: outer)) (he : s.heap.get? e = some { cls := cls, data := .fields #[.ref t, .none, .none, .none, .bool false, .none] })
   (hQ : ∀ h' B, (∀ b o, b ≠ e → b ∉ frs (env :: outer) → s.heap.get? b = some o → B.get? b = some o) → Heap.FlyingW B outer e cls (.ref t) h' → s.heap.UpToSlots h' → Q (.ref e) { s with heap := h' }) :
   notedBy M A env (cameBackBy M A env (fun x s' => wpAny M A (leaving env x) (fun _ s'' => Q x s'') E' s')) (.ref e) s := by
 have hB : ∀ b o, b ≠ e → b ∉ frs (env :: outer) → s.heap.get? b = some o → (hideAll s.heap (e :: frs (env :: outer))).get? b = some o := fun b o h1 h2 h3 => hideAll_get _ h3 (by
   intro q
   rcases List.mem_cons.mp q with q | q
   · exact h1 q
   · exact h2 q)
 refine note_first (vs := #[.ref t, .none, .none, .none, .bool false, .none]) hfr hf (B := hideAll s.heap (e :: frs (env :: outer))) (fun b o q => of_hideAll _ q) (funFrames_hide hl fun env he a ha => .tail _ (List.mem_filterMap.mpr ⟨env, he, ha⟩)) he (hideAll_none _ (.head _)) rfl rfl rfl fun h₁ H₁ u₁ => ?_
 refine came_back (s := { s with heap := h₁ }) hf H₁ fun h₂ H₂ u₂ => ?_
 refine leaves_held (s := { s with heap := h₂ }) hf H₂ fun h₃ F₃ u₃ => ?_
 exact hQ h₃ _ hB F₃ ((u₁.trans u₂).trans u₃)
end
noncomputable def Own (h : Heap) (x : Addr) (l : List Nat) : Prop := ∃ vs, h.PlainList x (List.toArray vs) ∧ Paired (RC.r All h) vs l
noncomputable def full (h : Heap) : Value → Bool
 | .ref x => match h.get? x with
   | some o => match o.data with
     | .seq its _ => !its.isEmpty
     | _ => false
   | none => false
 | _ => false
theorem full_of {h : Heap} {x : Addr} {l : List Nat} (w : Own h x l) : full h (.ref x) = !l.isEmpty := by
 refine el_EA w ?_; try clear w; intro vs zz0 p
 refine el_E zz0 ?_; clear zz0; intro n e
 have hl := Paired.length p
 have : full h (.ref x) = !(List.toArray vs).isEmpty := by simp only [full, e]
 rw [this]
 cases p <;> rfl
theorem filt {h : Heap} {Xi : List Addr} {q : List (List Nat)} (p : Paired (Own h) Xi q) : ∃ Xi', (Xi.map Value.ref).filter (full h) = Xi'.map Value.ref ∧ Paired (Own h) Xi' (q.filter fun l => !l.isEmpty) ∧ Xi'.Sublist Xi := by
 induction p with
 | nil => exact ⟨[], rfl, .nil, .refl _⟩
 | @cons x l _ _ f r ih =>
   obtain ⟨Xi', e, p, sb⟩ := ih
   have hf := full_of f
   by_cases hl : l.isEmpty = true
   · refine ⟨Xi', ?_, ?_, sb.cons _⟩
     · rw [List.map_cons, List.filter_cons, hf, hl]; exact e
     · rw [List.filter_cons, hl]; exact p
   · have hl' : l.isEmpty = false := by simpa using hl
     refine ⟨x :: Xi', ?_, ?_, sb.cons_cons _⟩
     · rw [List.map_cons, List.filter_cons, hf, hl', List.map_cons, ← e]; rfl
     · rw [List.filter_cons, hl']; exact .cons f p
theorem paired_eq {vs ws : List Value} (p : Paired (fun v y => y = v) vs ws) : ws = vs := by
 induction p with
 | nil => rfl
 | cons e _ ih => rw [e, ih]
theorem Fz.rebase {h₀ h₁ g h : Heap} {env : Env} {n : Nat} {m : Str → Option Value} (F : Fz h₀ env n g h m) (k : Keep h₁ h₀) (hs : h₁.objs.size = h₀.objs.size) : Fz h₁ env n h h m :=
 ⟨k.trans F.base, hs ▸ F.lo, F.hi, F.top, F.ns, F.cs, F.apart, .refl _ _⟩
theorem Fz.renew {h₀ g h h' : Heap} {env : Env} {n : Nat} {m m' ml : Str → Option Value} {wr : List Addr} (F : Fz h₀ env n g h m) (low : Low env n) (hnc : ∀ x, env.cells.lookup x = none) (hns : h'.Ns env.locals ml) (hml : ∀ x, env.kindOf x = some .local → ml x = m' x)
   (kk : ∀ b o, b ≠ env.locals → b ∉ wr → h.get? b = some o → h'.get? b = some o) (hwr : ∀ b : Nat, b ∈ wr → n ≤ b) : Fz h₀ env n h' h' m' := by
 have hlo := F.lo
 have hhi := F.hi
 refine ⟨fun b o e => kk b o (Nat.ne_of_lt (Nat.lt_of_lt_of_le (Heap.lt_size e) hlo)) (fun q => by have h1 := hwr b q; have h2 := Heap.lt_size e; exact Nat.lt_irrefl _ (Nat.lt_of_lt_of_le h2 (Nat.le_trans hlo (Nat.le_trans (Nat.le_of_lt hhi) h1)))) (F.base b o e), F.lo, F.hi, ?_, ⟨ml, hns, hml⟩, fun x a e => ?_, F.apart, .refl _ _⟩
 · obtain ⟨b, rfl, rfl | ⟨x, e⟩⟩ := low
   · exact hns.lt
   · rw [hnc] at e; cases e
 · rw [hnc] at e; cases e
section
variable {prog : Program} {w : World} {A : Around} {E : Value → Shared → Prop} {s : Shared} {L a : Addr} {cd : Value} {h₀ g : Heap} {n : Nat} {m : Str → Option Value} {ai D : Addr} {Xi : List Addr} {q : List (List Nat)} {res : List Nat} {Q : Flow → Shared → Prop}
theorem filter_step (hh : A.handled = none) (low : Low (envC3 L a cd) n) (F : Fz h₀ (envC3 L a cd) n g s.heap m) (S : St3 ai D Xi q res s.heap) (hok : ∀ b ∈ ai :: D :: Xi, okF h₀.objs.size n b)
   (hms : m (Str.ofString "sequences") = some (.ref ai)) (hmr : m (Str.ofString "result") = some (.ref D)) (hq : q.length ≤ 100) (hz' : ∀ l ∈ q, l.length ≤ 100)
   (h1 : ∀ s' m' g' ai' Xi', Fz h₀ (envC3 L a cd) n g' s'.heap m' → Sm s s' → KeepOn (okF h₀.objs.size n) s.heap s'.heap → St3 ai' D Xi' (q.filter fun l => !l.isEmpty) res s'.heap → Xi'.Sublist Xi → s.heap.get? ai' = none → m' (Str.ofString "sequences") = some (.ref ai') → m' (Str.ofString "result") = some (.ref D) → Q .next s') :
   wpAny (model prog w) A (exec (c3body.getD 0 (.Pass default)) (envC3 L a cd)) Q E s := by
 refine wpAny_Assign_ListComp_free (full s.heap) (fun v y => y = v) (by trivial) (by trivial) (by decide) (by trivial) (by decide) (by trivial) (by trivial) (by trivial) ?_ (fun _ => (by trivial))
 exists n_loc F (by trivial) (by trivial) (by trivial) hms ?_
 refine wpAny_pyIter_list S.seqs.isList ?_
 have hlts := S.lt
 have hai : ai < s.heap.objs.size := hlts ai (.head _)
 have F' := F.pass' (Keep.push s.heap { cls := .type "list_iterator", data := .fields #[.ref ai, .int 0 0] }) (by rw [Heap.size_push]; exact Nat.le_succ _)
 refine el_EA (F'.ns) ?_; intro ml hns hml
 have hLlt : (envC3 L a cd).locals < s.heap.objs.size := Nat.lt_of_lt_of_le F.hi F.top
 have hql := Paired.length S.own
 refine ⟨s.heap.objs.size, [s.heap.objs.size, ai], [s.heap.objs.size], (List.toArray (Xi.map Value.ref)).size, _, _, ml, rfl, Walks.list hh _ ai (Nat.ne_of_lt hai) (List.toArray (Xi.map Value.ref)), by rw [sizeLine_eq, List.size_toArray, List.length_map]; omega,
   ⟨⟨_, Heap.get?_push_size _ rfl, rfl, rfl⟩, S.seqs.isList.push _⟩, fun b hb => ?_, fun q => ?_, hns, ?_, ?_⟩
 · rw [Heap.size_push]
   rcases List.mem_cons.mp hb with rfl | hb
   · exact Nat.lt_succ_self _
   · rw [List.mem_singleton.mp hb]; exact Nat.lt_succ_of_lt hai
 · have h2 : (envC3 L a cd).locals = s.heap.objs.size := by simpa using q
   rw [h2] at hLlt; exact Nat.lt_irrefl _ hLlt
 · refine ⟨fun C i v s₃ m₃ E' hC hP hns₃ hx kk _ => ?_, fun C i v s₃ m₃ E' hC hP _ hns₃ hx kk _ => ?_⟩
   · have hP' : (List.toArray (Xi.map Value.ref))[i]? = some v := hP
     rw [List.getElem?_toArray, List.getElem?_map] at hP'
     refine el_EA (Option.map_eq_some_iff.mp hP') ?_; intro x hx' zz1
     obtain rfl := zz1
     refine el_EAEA (Paired.memL S.own x (List.mem_of_getElem? hx')) ?_; intro l _ vs hpl hp
     have hfull := full_of ⟨vs, hpl, hp⟩
     have hpl₃ : s₃.heap.PlainList x (List.toArray vs) := hpl.at fun o e => kk x o (by have := hlts x (.tail _ (.tail _ (List.mem_of_getElem? hx'))); simpa using Nat.ne_of_lt this) (Heap.get?_push_of_some _ e)
     have hzl := hz' l ‹_›
     have hvl := Paired.length hp
     refine wpAny_tests_one ?_
     exists isTrue_v (by trivial) ?_
     exists c_loc hns₃ (by trivial) (by trivial) (by trivial) hx ?_
     exists truthy_l hpl₃ (by omega) fun s₄ u₄ => ?_
     refine ⟨?_, s₄.heap, s₄.toks, u₄.st.eq, u₄.keep⟩
     rw [hfull]
     cases hp <;> rfl
   · exists c_loc hns₃ (by trivial) (by trivial) (by trivial) hx ?_
     exact ⟨rfl, s₃.heap, s₃.toks, rfl, fun _ _ e => e⟩
 · intro D' h' tk ys vs hD' _ hpl' hvl hvP hpair hns' kk
   have hvs : vs = Xi.map Value.ref := by
     apply List.ext_getElem?
     intro j
     by_cases hj : j < vs.length
     · refine el_E (show ∃ v, vs[j]? = some v from ⟨vs[j], List.getElem?_eq_getElem hj⟩) ?_; intro v hv
       have h2 : (List.toArray (Xi.map Value.ref))[j]? = some v := hvP j v hv
       rw [List.getElem?_toArray] at h2
       rw [hv, h2]
     · rw [List.size_toArray] at hvl
       rw [List.getElem?_eq_none (by omega), List.getElem?_eq_none (by omega)]
   subst hvs
   refine el_EAA (filt (h := s.heap) S.own) ?_; intro Xi' e1 p1 sb
   have hys := paired_eq hpair
   rw [e1] at hys
   have hys' : ys = List.toArray (Xi'.map Value.ref) := by rw [← hys, Array.toArray_toList]
   subst hys'
   have ne1 : ∀ b : Nat, b < s.heap.objs.size → b ∉ [s.heap.objs.size] := fun b hb => by simpa using Nat.ne_of_lt hb
   have kk' : ∀ b o, okF h₀.objs.size n b → s.heap.get? b = some o → h'.get? b = some o := fun b o hb e => kk b o (fun q => by
     rcases hb with hb | hb
     · exact Nat.lt_irrefl _ (Nat.lt_of_lt_of_le (q ▸ hb) F.lo)
     · exact Nat.lt_irrefl _ (Nat.lt_of_lt_of_le F.hi (q ▸ hb))) (ne1 b (Heap.lt_size e)) (Heap.get?_push_of_some _ e)
   have FN := F'.renew (m' := fun z => if z = Str.ofString "sequences" then some (.ref D') else m z) low (fun x => (by trivial)) hns' (fun x hx => by
     show (if x = Str.ofString "sequences" then some (Value.ref D') else ml x) = _
     by_cases q : x = Str.ofString "sequences"
     · rw [if_pos q, if_pos q]
     · rw [if_neg q, if_neg q]; exact hml x hx) kk (fun b hb => by rw [List.mem_singleton.mp hb]; exact F.top)
   have S' := S.keep (h' := h') fun b hb o e => kk' b o (hok b hb) e
   have hDn : s.heap.get? D' = none := by
     cases q : s.heap.get? D' with
     | none => rfl
     | some o => have := Heap.get?_push_of_some { cls := .type "list_iterator", data := .fields #[.ref ai, .int 0 0] } q; rw [hD'] at this; cases this
   refine h1 { s with heap := h', toks := tk } _ _ D' Xi' FN (.of _ _) (fun b o hb e => kk' b o hb e) ⟨hpl', ?_, S'.res⟩ sb hDn upd_eq (upd_ne (by decide) hmr)
   exact Paired.impMem (fun x hx l ⟨vs, e, p⟩ => ⟨vs, e.at fun o e => kk' x o (hok x (.tail _ (.tail _ (sb.subset hx)))) e, rc_any p⟩) p1
end
theorem enterL {prog : Program} {w : World} {A : Around} {s : Shared} {st : Stmt} {a : Addr} {args : List Value} {binds : List (Str × Value)} {R : Result → Shared → Prop} (hroom : A.depth < recursionLimit) (ho : DefAt s.heap a st) (hlim : s.heap.NoLimit)
   (hbind : ∀ pm cd doc, bindArgs (docDef (nmOf st) (psOf st) (bdOf st) (scOf st) pm cd doc) ⟨args, []⟩ = pure binds)
   (hkind : (binds.all fun y => (scOf st).names.lookup y.1 == some .local || (scOf st).names.lookup y.1 == some .cell) = true)
   (hone : ((scOf st).names.all fun p => !(p.2 == .cell) || !((scOf st).names.lookup p.1 == some .local)) = true)
   (h : ∀ L cd s₁ n, L = s.heap.objs.size → Fz s.heap (envOfC (nmOf st) (scOf st) L a cd) n s₁.heap s₁.heap (bindM binds fun _ => none) → Up s s₁ →
     wpAny (model prog w) (A.deeper (envOfC (nmOf st) (scOf st) L a cd)) (execs (bdOf st) (envOfC (nmOf st) (scOf st) L a cd))
       (fun f s' => R (.ok (.ret (match f with | .ret v => v | _ => .none))) s')
       (fun e s' => wpAny (model prog w) (A.deeper (envOfC (nmOf st) (scOf st) L a cd)) (leaving (envOfC (nmOf st) (scOf st) L a cd) e)
         (fun _ s'' => R (.error e) s'') (fun e' s'' => R (.error e') s'') s') s₁)
   (hco : (scOf st).isCoroutine = false) (hgen : (scOf st).isGenerator = false) (hk : (scOf st).kind = .function) :
   codeAny (model prog w) A (.call (.ref a) ⟨args, []⟩) R s := by
 refine el_EEEEAA ho ?_; try clear ho; intro o pm cd doc e hd hc
 refine call_cells hroom e hd hlim hc (hbind pm cd doc) (kindsX hkind _) (fun h₁ tk F X => ?_) hco hgen hk
 refine h _ cd { s with heap := h₁, toks := tk } h₁.objs.size rfl ⟨F.keep, F.above, F.ns.lt, Nat.le_refl _, ⟨_, F.ns, fun x hx => bindM_L hx _ _ _ rfl⟩, fun x c hcx => ?_, fun x y c e1 e2 => ?_, KeepOn.refl _ _⟩ ⟨.of _ _, F.keep, Nat.le_of_lt F.ns.lt⟩
 · have hcell := X.cell x c hcx
   have hnl : (envOfC (nmOf st) (scOf st) s.heap.objs.size a cd).kindOf x ≠ some .local := by
     rcases lookup_kind hcx with q | q
     · cases q
     · intro e
       have h1 := List.all_eq_true.mp hone _ q
       have e' : (scOf st).names.lookup x = some .local := e
       rw [e'] at h1
       cases h1
   rw [← bindM_C hnl _ (fun _ => none) (fun _ => none) rfl]
   refine ⟨hcell, X.above x c (mem_of_lookup hcx), ?_⟩
   refine el_EA hcell ?_; try clear hcell; intro oc hoc _
   exact Heap.lt_size hoc
 · exact name_of_addr X.apart (mem_of_lookup e1) (mem_of_lookup e2)
noncomputable def total (q : List (List Nat)) : Nat := (q.map List.length).sum
theorem total_filter : ∀ q : List (List Nat), total (q.filter fun l => !l.isEmpty) = total q
 | [] => rfl
 | l :: r => by
   have ih := total_filter r
   unfold total at ih ⊢
   cases l with
   | nil => simpa using ih
   | cons a t => simp [ih]
theorem total_drop_le (c : Nat) : ∀ q : List (List Nat), total (q.map (dropHead c)) ≤ total q
 | [] => Nat.le_refl _
 | l :: r => by
   have ih := total_drop_le c r
   unfold total at ih ⊢
   have : (dropHead c l).length ≤ l.length := by
     unfold dropHead
     split
     · rw [List.length_tail]; lia
     · exact Nat.le_refl _
   simp only [List.map_cons, List.sum_cons]
   lia
theorem total_drop_lt {c : Nat} : ∀ {q : List (List Nat)}, (∀ l ∈ q, l ≠ []) → (∃ l ∈ q, headC l = c) → total (q.map (dropHead c)) < total q
 | [], _, ⟨_, h, _⟩ => by cases h
 | l :: r, hne, ⟨l', h, e⟩ => by
   have h0 := total_drop_le c r
   unfold total at h0 ⊢
   simp only [List.map_cons, List.sum_cons]
   rcases List.mem_cons.mp h with rfl | h
   · have : (dropHead c l').length < l'.length := by
       unfold dropHead
       rw [if_pos e, List.length_tail]
       have := List.length_pos_iff.mpr (hne l' (.head _))
       lia
     lia
   · have h1 := total_drop_lt (c := c) (fun l hl => hne l (.tail _ hl)) ⟨l', h, e⟩
     unfold total at h1
     have : (dropHead c l).length ≤ l.length := by
       unfold dropHead
       split
       · rw [List.length_tail]; lia
       · exact Nat.le_refl _
     lia
theorem pick_mem {q : List (List Nat)} {c : Nat} (h : pickC q = some c) : ∃ l ∈ q, headC l = c := by
 unfold pickC at h
 have := List.mem_of_find?_eq_some h
 refine el_EA (List.mem_map.mp this) ?_; intro l hl e
 exact ⟨l, hl, e⟩
theorem drop_len {c k : Nat} {q : List (List Nat)} (h : ∀ l ∈ q, l.length ≤ k) : ∀ l ∈ q.map (dropHead c), l.length ≤ k := by
 intro l hl
 refine el_EA (List.mem_map.mp hl) ?_; intro l' hl' zz0
 obtain rfl := zz0
 have := h l' hl'
 unfold dropHead
 split
 · rw [List.length_tail]; lia
 · exact this
theorem c3_step (k : Nat) (q : List (List Nat)) (res : List Nat) : c3 (k + 1) q res = if (q.filter fun l => !l.isEmpty).isEmpty then some res else
 match pickC (q.filter fun l => !l.isEmpty) with
 | none => none
 | some h => c3 k ((q.filter fun l => !l.isEmpty).map (dropHead h)) (res ++ [h]) := rfl
noncomputable def msgC : Str := Str.ofString "Inconsistent hierarchy"
noncomputable def Merged3 (X : List Addr) (outer : List Env) (ans : Option (List Nat)) (s : Shared) (r : Result) (s' : Shared) : Prop :=
 (∃ v l, r = .ok (.ret v) ∧ ans = some l ∧ Sm s s' ∧ KeepNot X s.heap s'.heap ∧ s.heap.objs.size ≤ s'.heap.objs.size ∧ (RL RC).r (fun b => s.heap.objs.size ≤ b) s'.heap v l) ∨
 (∃ e t tk B, r = .error (.ref e) ∧ ans = none ∧ Sm s s' ∧ (∀ b o, b ∉ X → b ∉ frs outer → s.heap.get? b = some o → B.get? b = some o) ∧ Heap.FlyingW B outer e (.type "RuntimeError") (.ref t) s'.heap ∧ B.TupAt t [.str msgC tk] ∧
   (∀ b o, b ∉ X → s.heap.get? b = some o → (∀ vs, o.data ≠ .fields vs) → ∃ sl, s'.heap.get? b = some { o with slots := sl }))
theorem funFrames_keep {base h h' : Heap} {l : List Env} (f : h.FunFrames base l) (k : ∀ b ∈ frs l, ∀ o, h.get? b = some o → h'.get? b = some o) : h'.FunFrames base l := by
 induction l with
 | nil => trivial
 | cons env r ih =>
   refine ⟨f.1, ?_, ih f.2.2 fun b hb => k b (by
     obtain ⟨e, he, hq⟩ := List.mem_filterMap.mp hb
     exact List.mem_filterMap.mpr ⟨e, .tail _ he, hq⟩)⟩
   exact el_EEAAA f.2.1 fun L o hf hn ho hd => ⟨L, o, hf, hn, k L (List.mem_filterMap.mpr ⟨env, .head _, hf⟩) o ho, hd⟩
section
variable {prog : Program} {w : World} {A : Around} {s : Shared} {P : Adr} {mg mb : Str → Option Value}
theorem c_c3 {X : List Addr} {seqs : List (List Nat)} {a₀ : Addr} {outer : List Env} {hb : Heap} {f : Nat} (hroom : A.depth < recursionLimit) (hh : A.handled = none) (W : Wd P mg mb hb) (kb : Keep hb s.heap) (hXb : ∀ x : Nat, x ∈ X → hb.objs.size ≤ x) (hnd : X.Nodup)
   (ha : s.heap.PlainList a₀ (List.toArray (X.map Value.ref))) (haX : a₀ ∉ X) (hown : Paired (Own s.heap) X seqs) (hlen : seqs.length ≤ 100) (hz : ∀ l ∈ seqs, l.length ≤ 100) (hf : total seqs < f) (htz : total seqs ≤ 10000)
   (hfr : A.frames = some outer) (hfl : s.heap.FunFrames {} outer) (hXf : ∀ x ∈ X, x ∉ frs outer) :
   codeAny (model prog w) A (.call (.ref P.c3) ⟨[.ref a₀], []⟩) (Merged3 X outer (c3 f seqs []) s) s := by
 have W' := W.keeps kb
 refine enterL (binds := [(Str.ofString "sequences", .ref a₀)]) hroom W'.dc3 W'.lim (by intros; rfl) (by rfl) (by rfl) ?_ rfl rfl rfl
 intro L cd s₁ n₁ hL F₁ u
 refine el_EAA (F₁.lower) ?_; intro n hle low F₁
 have hsz0 : (hideAll s.heap X).objs.size = s.heap.objs.size := hideAll_size _ _
 have F := F₁.rebase (h₁ := hideAll s.heap X) (fun b o q => of_hideAll _ q) hsz0
 have hkX : ∀ {h : Heap}, Keep (hideAll s.heap X) h → KeepNot X s.heap h := fun k b o hb e => k b o (hideAll_get _ e hb)
 have hkb : Keep hb (hideAll s.heap X) := fun b o e => hideAll_get _ (kb b o e) fun q => Nat.lt_irrefl _ (Nat.lt_of_lt_of_le (Heap.lt_size e) (hXb b q))
 have hnL : n = L + 1 := by
   obtain ⟨b, rfl, rfl | ⟨x, e⟩⟩ := low
   · rfl
   · have hnone : (envC3 L P.c3 cd).cells.lookup x = none := (by trivial)
     rw [hnone] at e; cases e
 have hXlt : ∀ x ∈ X, x < s.heap.objs.size := fun x hx => by
   refine el_EAEA (Paired.memL hown x hx) ?_; intro l _ vs e _
   exact PlainList_lt e
 have halt := PlainList_lt ha
 generalize hh0 : hideAll s.heap X = h₀ at F hsz0 hkX hkb
 have hX0 : ∀ x ∈ X, x < h₀.objs.size ∧ h₀.get? x = none := fun x hx => ⟨by rw [hsz0]; exact hXlt x hx, by rw [← hh0]; exact hideAll_none _ hx⟩
 refine wpAny_execs_cons ?_
 exists wpAny_Assign_Name ?_ (by trivial)
 exists List_ ?_
 exists spliced_none ?_
 exists newL (by simp) fun D s₂ u₂ hD hl => ?_
 exists st_loc (F.pass u₂).here (by trivial) (by trivial) (by trivial) fun s₃ F₃ hs₃ sm₃ => ?_
 have hnD : n ≤ D := Nat.le_trans F.top hD
 have sms₃ : Sm s s₃ := u.st.trans (u₂.st.trans sm₃)
 have hDX : D ∉ X := fun q => by
   have h1 := hXlt D q
   have h2 := F.lo
   have h3 := F.hi
   rw [hsz0] at h2
   exact Nat.lt_irrefl _ (Nat.lt_of_lt_of_le h1 (Nat.le_trans h2 (Nat.le_trans (Nat.le_of_lt h3) hnD)))
 have S₃ : St3 a₀ D X seqs [] s₃.heap := by
   have k13 : ∀ b o, b < s.heap.objs.size → s.heap.get? b = some o → s₃.heap.get? b = some o := fun b o hb e => F₃.keep b o (.inl (by rw [hsz0]; exact hb)) (u₂.keep b o (u.keep b o e))
   refine ⟨ha.at fun o e => k13 _ o halt e, Paired.impMem (fun x hx l ⟨vs, e, p⟩ => ⟨vs, e.at fun o e => k13 x o (hXlt x hx) e, rc_any p⟩) hown, [], hl.at fun o e => F₃.keep D o (.inr hnD) e, .nil⟩
 refine wpAny_execs_cons ?_
 refine wpAny_While ?_
 refine codeAny_whileLoop (fun k s' => ∃ ai Xi qi res m' g', Fz h₀ (envC3 L P.c3 cd) n g' s'.heap m' ∧ Sm s s' ∧ St3 ai D Xi qi res s'.heap ∧ okF h₀.objs.size n ai ∧ Xi.Sublist X ∧ ai ∉ Xi ∧ m' (Str.ofString "sequences") = some (.ref ai) ∧ m' (Str.ofString "result") = some (.ref D) ∧
   c3 k qi res = c3 f seqs [] ∧ (total qi < k ∧ res.length + total qi ≤ total seqs) ∧ qi.length ≤ 100 ∧ (∀ l ∈ qi, l.length ≤ 100)) ?_ f ⟨a₀, X, seqs, [], _, _, F₃, sms₃, S₃, .inl (by rw [hsz0]; exact halt), .refl _, haX, (by trivial), (by trivial), rfl, ⟨hf, by simp⟩, hlen, hz⟩
 intro k s₄ zzM23_58_2
 refine el_EEEEEEAAAAAAAAAAA zzM23_58_2 ?_; clear zzM23_58_2; intro ai Xi qi res m₄ g₄ F₄ sm₄ S₄ hoai hsub haiX e1 e2 hc3 zz0 hlen4 hz4
 refine el_A zz0 ?_; clear zz0; intro htot hrt
 exists isTrue_v (by trivial) ?_
 exists wpAny_Constant_bool ?_
 exists wpAny_truthy_bool ?_
 simp only [if_true]
 have hok4 : ∀ b ∈ ai :: D :: Xi, okF h₀.objs.size n b := fun b hb => by
   rcases List.mem_cons.mp hb with rfl | hb
   · exact hoai
   · rcases List.mem_cons.mp hb with rfl | hb
     · exact .inr hnD
     · exact .inl (hX0 b (hsub.subset hb)).1
 have hh' : (A.deeper (envC3 L P.c3 cd)).handled = none := deep_none hh _
 cases k with
 | zero => exact absurd htot (Nat.not_lt_zero _)
 | succ k =>
 refine wpAny_execs_cons ?_
 refine filter_step hh' low F₄ S₄ hok4 e1 e2 hlen4 hz4 ?_
 intro s₅ m₅ g₅ ai₅ Xi₅ F₅ sm₅ k₅ S₅ hsb₅ hnew f1 f2
 have hok5 : ∀ b ∈ ai₅ :: D :: Xi₅, okF h₀.objs.size n b := fun b hb => by
   rcases List.mem_cons.mp hb with rfl | hb
   · by_cases q : n ≤ b
     · exact .inr q
     · refine .inl (Nat.lt_of_le_of_ne ?_ fun q' => ?_)
       · rw [hsz0, ← hL]; rw [hnL] at q; exact Nat.le_of_not_lt q
       · refine el_EA (F₄.ns) ?_; intro _ zz1 _
         refine el_EEEA zz1 ?_; clear zz1; intro o _ _ eo _
         have hloc : (envC3 L P.c3 cd).locals = b := by rw [q', hsz0, ← hL]; rfl
         rw [hloc, hnew] at eo; cases eo
   · rcases List.mem_cons.mp hb with rfl | hb
     · exact .inr hnD
     · exact hok4 b (.tail _ (.tail _ (hsb₅.subset hb)))
 have hai5 : ai₅ ∉ Xi₅ := fun q => by
   have h2 := S₄.lt ai₅ (.tail _ (.tail _ (hsb₅.subset q)))
   refine el_EAEA (Paired.memL S₄.own ai₅ (hsb₅.subset q)) ?_; intro l _ vs zz2 _
   refine el_E zz2 ?_; clear zz2; intro _ e
   rw [hnew] at e; cases e
 generalize hq5 : (qi.filter fun l => !l.isEmpty) = q5 at S₅
 have hne5 : ∀ l ∈ q5, l ≠ [] := fun l hl => by
   rw [← hq5] at hl
   have := (List.mem_filter.mp hl).2
   intro q; rw [q] at this; cases this
 have hz5 : ∀ l ∈ q5, l.length ≤ 100 := fun l hl => hz4 l (by rw [← hq5] at hl; exact (List.mem_filter.mp hl).1)
 have hlen5 : q5.length ≤ 100 := by rw [← hq5]; exact Nat.le_trans (List.length_filter_le _ _) hlen4
 have htot5 : total q5 = total qi := by rw [← hq5]; exact total_filter qi
 have hql5 := Paired.length S₅.own
 have sms₅ : Sm s s₅ := sm₄.trans sm₅
 rw [c3_step, hq5] at hc3
 refine wpAny_execs_cons ?_
 by_cases hemp : q5 = []
 · have hX5 : Xi₅ = [] := by rw [hemp] at hql5; exact List.eq_nil_of_length_eq_zero hql5
   exists If_t ?_
   exists wpAny_isTrue_Not ?_
   exists isTrue_v (by trivial) ?_
   exists n_loc F₅ (by trivial) (by trivial) (by trivial) f1 ?_
   exists truthy_l S₅.seqs (by rw [hX5]; simp) fun s₆ u₆ => ?_
   exists ⟨by rw [hX5]; simp, ?_⟩
   refine wpAny_execs_cons ?_
   exists wpAny_Return_some ?_
   have F₆ := F₅.pass u₆
   exists n_loc F₆ (by trivial) (by trivial) (by trivial) f2 ?_
   have hcr : c3 f seqs [] = some res := by rw [← hc3, hemp]; rfl
   refine el_EA (S₅.res) ?_; intro vs hv hpv
   exact .inl ⟨_, res, rfl, hcr, sms₅.trans u₆.st, hkX F₆.base, Nat.le_trans (Nat.le_of_eq (by rw [hsz0])) (Nat.le_trans F₆.lo (Nat.le_trans (Nat.le_of_lt F₆.hi) F₆.top)), D, vs, rfl, by
     have := F₆.lo; have := F₆.hi; rw [hsz0] at *; omega, plUp hv u₆, rc_any hpv⟩
 · have hXne : Xi₅ ≠ [] := by intro q; rw [q] at hql5; exact hemp (List.eq_nil_of_length_eq_zero hql5.symm)
   exists If_f ?_
   exists wpAny_isTrue_Not ?_
   exists isTrue_v (by trivial) ?_
   exists n_loc F₅ (by trivial) (by trivial) (by trivial) f1 ?_
   exists truthy_l S₅.seqs (by rw [List.length_map]; omega) fun s₆ u₆ => ?_
   exists ⟨by cases Xi₅ with | nil => exact absurd rfl hXne | cons _ _ => simp, ?_⟩
   refine wpAny_execs_nil ?_
   have F₆ := F₅.pass u₆
   have S₆ := S₅.keep (h' := s₆.heap) fun b _ o e => u₆.keep b o e
   have hq5e : q5.isEmpty = false := by cases q5 with | nil => exact absurd rfl hemp | cons _ _ => rfl
   rw [hq5e] at hc3
   refine wpAny_execs_cons ?_
   refine pick_loop hh' low F₆ S₆ hok5 f1 f2 hz5 hne5 hemp ?_ ?_
   · intro s₇ m₇ g₇ c t₇ hp F₇ sm₇ k₇ j1 j2 j3
     rw [hp] at hc3
     have S₇ := S₆.ok hok5 k₇
     refine wpAny_execs_cons ?_
     exists If_f ?_
     exists wpAny_isTrue_Compare1 ?_ (by trivial)
     exists n_loc F₇ (by trivial) (by trivial) (by trivial) j3 ?_
     exists wpAny_Constant_none ?_
     exists wpAny_is_other rfl (fun q => nomatch q) ?_
     exists wpAny_truthy_bool ?_
     exists ⟨rfl, ?_⟩
     refine wpAny_execs_nil ?_
     refine wpAny_execs_cons ?_
     exists wpAny_Expr_any ?_ (by trivial) (by trivial)
     refine el_EA (S₇.res) ?_; intro vs hv hpv
     exists meth1 ab_name (by trivial) (by trivial) PySem.F.plainAttrs_list PySem.F.slot_list_append PySem.F.type_list_append ?_
     exists n_loc F₇ (by trivial) (by trivial) (by trivial) j2 ?_
     exists ⟨hv.isList.typeIs, pl_none hv, ?_⟩
     exists n_loc F₇ (by trivial) (by trivial) (by trivial) j3 ?_
     have haD : ai₅ ≠ D := fun q => by
       refine el_EA (S₄.res) ?_; intro ws zz3 _
       refine el_E zz3 ?_; clear zz3; intro _ e
       rw [q] at hnew; rw [hnew] at e; cases e
     have hDX5 : D ∉ Xi₅ := fun q => hDX (hsub.subset (hsb₅.subset q))
     have hvl : vs.length = res.length := Paired.length hpv
     have hres : res.length ≤ 10000 := by omega
     refine append_at (hsz := by rw [sizeLine_eq, List.size_toArray]; omega) hv.choose_spec fun h₈ hs₈ hD₈ => ?_
     have F₈ := F₇.sameC hs₈ hnD
     have S₈ : St3 ai₅ D Xi₅ q5 (res ++ [c]) h₈ := by
       refine ⟨S₇.seqs.at fun o e => (hs₈.2 _ haD).trans e, Paired.impMem (fun x hx l ⟨vs, e, p⟩ => ⟨vs, e.at fun o e => (hs₈.2 x fun q => hDX5 (q ▸ hx)).trans e, rc_any p⟩) S₇.own, vs ++ [.str (sW [c]) t₇], ⟨_, by rw [List.push_toArray] at hD₈; exact hD₈⟩, Paired.snoc (rc_any hpv) ⟨_, rfl⟩⟩
     refine wpAny_execs_cons ?_
     refine del_loop (s := { s₇ with heap := h₈ }) (c := c) (t := t₇) hh' low F₈ S₈ hok5 (fun x hx => hX0 x (hsub.subset (hsb₅.subset hx))) ((hnd.sublist hsub).sublist hsb₅) hai5 hDX5 j1 j2 j3 hz5 hne5 ?_
     intro s₉ m₉ g₉ F₉ sm₉ k₉ S₉ l1 l2
     refine wpAny_execs_nil ?_
     refine ⟨k, Nat.lt_succ_self _, ai₅, Xi₅, q5.map (dropHead c), res ++ [c], m₉, g₉, F₉, ?_, S₉, hok5 ai₅ (.head _), hsb₅.trans hsub, hai5, l1, l2, hc3, ?_, by rw [List.length_map]; exact hlen5, drop_len hz5⟩
     · exact sms₅.trans (u₆.st.trans (sm₇.trans ⟨sm₉.gens, sm₉.drawn, sm₉.os⟩))
     · have := total_drop_lt hne5 (pick_mem hp)
       rw [List.length_append, List.length_singleton]
       omega
   · intro s₇ m₇ g₇ hp F₇ sm₇ k₇ j1 j2 j3
     rw [hp] at hc3
     refine wpAny_execs_cons ?_
     exists If_t ?_
     exists wpAny_isTrue_Compare1 ?_ (by trivial)
     exists n_loc F₇ (by trivial) (by trivial) (by trivial) j3 ?_
     exists wpAny_Constant_none ?_
     exists wpAny_is_self rfl ?_
     exists wpAny_truthy_bool ?_
     exists ⟨rfl, ?_⟩
     refine wpAny_execs_cons ?_
     have W₇ := W.keeps (hkb.trans F₇.base)
     exists Raise_madeB PySem.F.excCall_RuntimeError PySem.F.excRaise_RuntimeError hh' ?_ (by trivial) (by trivial)
     exists n_bi W₇ (by trivial) (by trivial) (by trivial) (by trivial) (by trivial) (by decide) (W.no "RuntimeError" (by decide)) (v := .type "RuntimeError") (by decide +kernel) ?_
     exists ⟨rfl, ?_⟩
     exists sp_more (by trivial) ?_
     exists wpAny_Constant_str ?_
     exists spliced_none ?_
     exists ⟨by rw [sizeLine_eq, List.length_singleton]; decide, fun h₈ e hx => ?_⟩
     have hcr : c3 f seqs [] = none := by rw [← hc3]; rfl
     refine el_EAA (hx.there) ?_; intro t he htn ht
     have sms₇ : Sm s s₇ := sms₅.trans (u₆.st.trans sm₇)
     have hkX7 : KeepNot X s.heap s₇.heap := hkX F₇.base
     have k78 : ∀ b o, s₇.heap.get? b = some o → h₈.get? b = some o := hx.keeps
     have hfrs : h₈.FunFrames {} outer := funFrames_keep hfl fun b hb o e => k78 b o (hkX7 b o (fun q => hXf b q hb) e)
     refine el_EA (F₇.ns) ?_; intro ml zz4 _
     refine el_EEEAA zz4 ?_; clear zz4; intro oL es ep eL dL _
     have hLs : ∀ b o, s.heap.get? b = some o → b ≠ L := fun b o e q => by have := Heap.lt_size e; rw [q, hL] at this; exact Nat.lt_irrefl _ this
     have hex : ∀ b o, s₇.heap.get? b = some o → b ≠ e := fun b o eb q => by have := hx.new; rw [q] at eb; rw [this] at eb; cases eb
     refine raise_leave (t := t) (L := L) (outer := outer) (Around.frames_deeper hfr) rfl ⟨fun q => (by have q' : ScopeKind.function = ScopeKind.module := q; cases q'), ⟨L, oL, rfl, rfl, k78 _ _ eL, fun vs q => by rw [dL] at q; cases q⟩, hfrs⟩ he fun h₉ B hB hfly hus => ?_
     refine .inr ⟨e, t, _, B, rfl, hcr, ⟨sms₇.gens, sms₇.drawn, sms₇.os⟩, fun b o hbX hbf eb => ?_, hfly, ⟨_, _, hB t _ ?_ ?_ ht, rfl, rfl⟩, fun b o hbX eb hnf => ?_⟩
     · have e7 := hkX7 b o hbX eb
       refine hB b o (hex b o e7) (fun q => ?_) (k78 b o e7)
       rcases List.mem_cons.mp (show b ∈ L :: frs outer from q) with q | q
       · exact hLs b o eb q
       · exact hbf q
     · intro q
       rw [q] at ht; rw [he] at ht; have := congrArg (Option.map Obj.cls) ht; simp at this
     · intro q
       rcases List.mem_cons.mp (show t ∈ L :: frs outer from q) with q | q
       · have htn' : s₇.heap.get? t = none := htn
         have eL' : s₇.heap.get? L = some oL := eL
         rw [q] at htn'; rw [htn'] at eL'; cases eL'
       · refine el_AEA (hfl.mem q) ?_; intro _ o eo _
         have htn' : s₇.heap.get? t = none := htn
         rw [hkX7 t o (fun r => hXf t r q) eo] at htn'; cases htn'
     · exact hus b o (k78 b o (hkX7 b o hbX eb)) hnf
end
theorem Fz.after {hb h₀ g h h' : Heap} {env : Env} {n : Nat} {m : Str → Option Value} (F : Fz h₀ env n g h m) (low : Low env n) (kb : Keep hb h') (hbs : hb.objs.size ≤ env.locals) (hns : ∀ ml, h.Ns env.locals ml → h'.Ns env.locals ml)
   (hcs : ∀ x a, env.cells.lookup x = some a → ∀ o, h.get? a = some o → h'.get? a = some o) : Fz hb env n h' h' m := by
 have hns' : ∃ ml, h'.Ns env.locals ml ∧ ∀ x, env.kindOf x = some .local → ml x = m x := by
   refine el_EA (F.ns) ?_; intro ml hn hm
   exact ⟨ml, hns ml hn, hm⟩
 have hcs' : ∀ x a, env.cells.lookup x = some a → h'.IsCell a (m x) ∧ env.locals < a ∧ a < n := fun x a e => by
   refine el_AA (F.cs x a e) ?_; intro zz0 h1 h2
   refine el_EA zz0 ?_; clear zz0; intro oc e1 e2
   exact ⟨⟨oc, hcs x a e oc e1, e2⟩, h1, h2⟩
 refine ⟨kb, hbs, F.hi, ?_, hns', hcs', F.apart, .refl _ _⟩
 obtain ⟨b, rfl, rfl | ⟨x, e⟩⟩ := low
 · refine el_EA hns' ?_; try clear hns'; intro ml hn _
   exact hn.lt
 · refine el_A (hcs' x b e) ?_; intro zz1 _
   refine el_EA zz1 ?_; clear zz1; intro oc e1 _
   exact Heap.lt_size e1
theorem refs_of {h : Heap} {ok : Addr → Prop} {vs : List Value} {qs : List (List Nat)} (p : Paired ((RL RC).r ok h) vs qs) : ∃ X : List Addr, vs = X.map Value.ref ∧ Paired (Own h) X qs ∧ ∀ x ∈ X, ok x := by
 induction p with
 | nil => exact ⟨[], rfl, .nil, fun _ h => (nomatch h)⟩
 | cons x _ ih =>
   obtain ⟨a, vs, e, ho, hl, hp⟩ := x
   obtain ⟨X, e', p, hX⟩ := ih
   refine ⟨a :: X, by rw [e, e']; rfl, .cons ⟨vs, hl, rc_any hp⟩ p, fun x hx => ?_⟩
   rcases List.mem_cons.mp hx with rfl | hx
   · exact ho
   · exact hX x hx
theorem nodup_of : ∀ {X : List Addr}, Apart (X.map Value.ref) → X.Nodup
 | [], _ => .nil
 | x :: r, h => by
   have h' : (Value.ref x :: r.map Value.ref).Pairwise fun v w => ∀ x, v = .ref x → w ≠ .ref x := h
   rw [List.pairwise_cons] at h'
   refine List.nodup_cons.mpr ⟨fun hx => ?_, nodup_of h'.2⟩
   exact h'.1 (.ref x) (List.mem_map.mpr ⟨x, hx, rfl⟩) x rfl rfl
noncomputable def pairsOf (words : List (List Nat)) : List (List Nat) := (List.range (words.length - 1)).map fun k => pairOf (words.getD k []) (words.getD (k + 1) [])
noncomputable def seqsOf (letters : List Nat) (words : List (List Nat)) : List (List Nat) := (letters.map fun c => [c]) ++ pairsOf words
noncomputable def mergeOf (letters : List Nat) (words : List (List Nat)) : Option (List Nat) := c3 100 (seqsOf letters words) []
theorem pairOf_len : ∀ a b : List Nat, (pairOf a b).length ≤ 2
 | [], _ => by simp [pairOf]
 | a :: _, [] => by simp [pairOf]
 | a :: r, b :: r' => by
   unfold pairOf
   split
   · exact pairOf_len r r'
   · simp
theorem seqs_len (letters : List Nat) (words : List (List Nat)) : ∀ l ∈ seqsOf letters words, l.length ≤ 2 := by
 intro l hl
 unfold seqsOf at hl
 rcases List.mem_append.mp hl with h | h
 · refine el_EA (List.mem_map.mp h) ?_; intro c _ zz2
   obtain rfl := zz2
   simp
 · unfold pairsOf at h
   refine el_EA (List.mem_map.mp h) ?_; intro k _ zz3
   obtain rfl := zz3
   exact pairOf_len _ _
theorem total_le {k : Nat} : ∀ {q : List (List Nat)}, (∀ l ∈ q, l.length ≤ k) → total q ≤ k * q.length
 | [], _ => by simp [total]
 | l :: r, h => by
   have ih := total_le (q := r) fun l hl => h l (.tail _ hl)
   have := h l (.head _)
   unfold total at ih ⊢
   rw [List.map_cons, List.sum_cons, List.length_cons, Nat.mul_succ]
   lia
noncomputable def MergedR (outer : List Env) (ans : Option (List Nat)) (s : Shared) (r : Result) (s' : Shared) : Prop :=
 ∃ v, r = .ok (.ret v) ∧ Sm s s' ∧ KeepNot (frs outer) s.heap s'.heap ∧ (∀ b ∈ frs outer, ∀ o, s.heap.get? b = some o → ∃ sl, s'.heap.get? b = some { o with slots := sl }) ∧
   match ans with
   | some l => (RL RC).r (fun b => s.heap.objs.size ≤ b) s'.heap v l
   | none => ∃ t, v = .str msgC t
section
variable {prog : Program} {w : World} {A : Around} {s : Shared} {P : Adr} {mg mb : Str → Option Value}
theorem c_merged {vl vw : Value} {letters : List Nat} {words : List (List Nat)} {outer : List Env} {hb : Heap} (hroom : A.depth + 1 < recursionLimit) (hh : A.handled = none) (hu : A.units + 20 < cLine) (W : Wd P mg mb hb) (kb : Keep hb s.heap) (hbs : hb.objs.size ≤ s.heap.objs.size) (hfb : ∀ b ∈ frs outer, hb.get? b = none)
   (hl : (RL RC).r All s.heap vl letters) (hw : (RL RW).r All s.heap vw words) (h4 : letters.length = 4) (hwl : words.length ≤ 20) (hwp : 1 ≤ words.length) (hwz : ∀ w ∈ words, w.length ≤ 10) (hfr : A.frames = some outer) (hfl : s.heap.FunFrames {} outer) :
   codeAny (model prog w) A (.call (.ref P.merged) ⟨[vl, vw], []⟩) (MergedR outer (mergeOf letters words) s) s := by
 have W' := W.keeps kb
 refine enterL (binds := [(Str.ofString "letters", vl), (Str.ofString "words", vw)]) (by lia) W'.dmerged W'.lim (by intros; rfl) (by rfl) (by rfl) ?_ rfl rfl rfl
 intro L cd s₁ n₁ hL F₁ u
 refine el_EAA (F₁.lower) ?_; intro n hle low F
 have W₁ := W'.up u
 refine el_EEAAA ((RL RW).at hw u) ?_; intro aw ws zz4 _ hplw hpw
 obtain rfl := zz4
 have hwsl := Paired.length hpw
 refine wpAny_execs_cons ?_
 exists Assign_ListComp_M (β := List Nat) (RR := RLd (RL RC)) (zs := pairsOf words) (by trivial) (by trivial) (by decide) (by trivial) (by decide) (by trivial) (fun _ => (by trivial)) (by trivial) (by trivial) (by trivial) F ?_ ?_
 · exists wpAny_Call_NameR ?_
   exists n_bi W₁ (by trivial) (by trivial) (by trivial) (by trivial) (by trivial) (by decide) (W.no "range" (by decide)) PyProof.Rows.boot_range ?_
   exists cw_type (by trivial) ?_
   exists sp_more (by trivial) ?_
   exists wpAny_BinOp ?_
   exists wpAny_Call_NameR ?_
   exists n_bi W₁ (by trivial) (by trivial) (by trivial) (by trivial) (by trivial) (by decide) (W.no "len" (by decide)) boot_len ?_
   exists cw_bi (by trivial) ?_
   exists sp_more (by trivial) ?_
   exists n_cell F (by trivial) (by trivial) (by trivial) (by trivial) (by trivial) ?_
   exists spliced_none ?_
   exists lenL hplw (by lia) fun t₂ s₂ u₂ => ?_
   exists wpAny_Constant_int ?_
   exists PyProof.Rows.sub_int ?_
   exists from_ (u₂.trans ((Up.toks _).trans (Up.toks _)) : Up s₁ _) fun s₃ u₃ => ?_
   exists spliced_none ?_
   exists range_one fun r s₄ t₃ t₄ t₅ u₄ hrg => ?_
   have eN : (ws.length : Int) - 1 = ((words.length - 1 : Nat) : Int) := by lia
   rw [eN] at hrg
   have u₅ : Up s₁ s₄ := u₃.trans u₄
   have W₄ := W₁.up u₅
   have F₄ := F.pass u₅
   have hcell := (F₄.cs (Str.ofString "words") _ (by trivial)).1
   exists ⟨u₅, ?_⟩
   exists comp_rangeD (R' := RL RC) (f := fun k => pairOf (words.getD k []) (words.getD (k + 1) [])) (k := words.length - 1) (deep_none hh _) hrg (small_nat (by lia)) rangeSize_nat (by rw [sizeLine_eq]; lia) ?_ ?_
   · intro i hi t' C s₆ m₃ E' u₆ hC hn hx
     have hpl₆ := plUp hplw (u₅.trans u₆)
     have hc₆ := cellUp hcell u₆
     have W₆ := W₄.up u₆
     refine el_EAE (Paired.get hpw (List.getElem?_eq_getElem (show i < words.length by lia))) ?_; intro v1 hv1 t1 zz5
     obtain rfl := zz5
     refine el_EAE (Paired.get hpw (List.getElem?_eq_getElem (show i + 1 < words.length by lia))) ?_; intro v2 hv2 t2 zz6
     obtain rfl := zz6
     have e1 : (0 + (i : Int)).toNat = i := by lia
     have e2 : (0 + (i : Int) + 1).toNat = i + 1 := by lia
     exists wpAny_Call_NameR ?_
     exists n_gl W₆ (by trivial) (by trivial) (by trivial) (by trivial) W.gpair ?_
     exists cw_def (by trivial) ?_
     exists sp_more (by trivial) ?_
     exists Subscript_ ?_
     exists c_cell (by trivial) (by trivial) (by trivial) (by trivial) hc₆ ?_
     exists c_loc hn (by trivial) (by trivial) (by trivial) hx ?_
     exists item_ hpl₆ (by trivial) (by lia) (by lia) (v := .str (sW words[i]) t1) (by rw [List.getElem?_toArray, e1]; exact hv1) ?_
     exists sp_more (by trivial) ?_
     exists Subscript_ ?_
     exists c_cell (by trivial) (by trivial) (by trivial) (by trivial) hc₆ ?_
     exists wpAny_BinOp ?_
     exists c_loc hn (by trivial) (by trivial) (by trivial) hx ?_
     exists wpAny_Constant_int ?_
     exists PyProof.Rows.add_int ?_
     exists from_ ((Up.toks _).trans (Up.toks _) : Up s₆ _) fun s₇ u₇ => ?_
     exists item_ (plUp hpl₆ u₇) (by trivial) (by lia) (by lia) (v := .str (sW words[i + 1]) t2) (by rw [List.getElem?_toArray, e2]; exact hv2) ?_
     exists spliced_none ?_
     have W₇ := W₆.up u₇
     exists ⟨W₇.dpair.fn, ?_⟩
     have z1 := hwz words[i] (List.getElem_mem _)
     have z2 := hwz words[i + 1] (List.getElem_mem _)
     exists call_ret (c_pair (room0 (by lia)) (deep_none hh _) W₇ (by lia) (by lia)) fun v s₈ u₈ hv => ?_
     refine ⟨u₇.trans u₈, ?_⟩
     have d1 : words.getD i [] = words[i] := getElem?_getD (List.getElem?_eq_getElem _)
     have d2 : words.getD (i + 1) [] = words[i + 1] := getElem?_getD (List.getElem?_eq_getElem _)
     rw [d1, d2]
     exact (RL RC).mono (fun a ha => Nat.le_trans u₇.size ha) hv
   · intro v s' us hr
     exact ⟨u₅.trans us, (RLd (RL RC)).mono (fun a ha => Nat.le_trans u₅.size ha) hr⟩
 · intro v s₂ F₂ sm₂ hz₂ k₂ hv
   refine el_EEAAAA hv ?_; try clear hv; intro ap vp zz7 hap hplp hpp hapt
   obtain rfl := zz7
   refine el_EAA (refs_of hpp) ?_; intro Xp zz8 hownp hXp
   obtain rfl := zz8
   have W₂ := W'.keeps F₂.base
   have sm02 : Sm s s₂ := u.st.trans sm₂
   refine wpAny_execs_cons ?_
   refine wpAny_Try_except ?_
   refine wpAny_execs_cons ?_
   exists wpAny_Return_some ?_
   exists wpAny_Call_NameR ?_
   exists n_gl W₂ (by trivial) (by trivial) (by trivial) (by trivial) W.gc3 ?_
   exists cw_def (by trivial) ?_
   exists sp_more (by trivial) ?_
   exists wpAny_BinOp ?_
   exists ListComp_M (β := List Nat) (by trivial) (by decide) (by trivial) (by decide) (by trivial) (fun _ => (by trivial)) ?_
   exists n_loc F₂ (by trivial) (by trivial) (by trivial) (by trivial) ?_
   have hl₂ : (RL RC).r All s₂.heap vl letters := (RL RC).up F₂.base.on hl
   exists comp_listD (R := RC) (R' := RL RC) (f := fun c => [c]) (deep_none hh _) hl₂ (by rw [sizeLine_eq]; lia) ?_ ?_
   · intro i v c C s₃ m₃ E' hi hv u₃ hC hn hx
     exists List_ ?_
     exists sp_more (by trivial) ?_
     exists c_loc hn (by trivial) (by trivial) (by trivial) hx ?_
     exists spliced_none ?_
     exists newL (by simp) fun D s₄ u₄ hD hl₄ => ?_
     exact ⟨u₄, D, _, rfl, hD, hl₄, .cons hv .nil⟩
   · intro v s₃ u₃ hv
     refine el_EEAAAA hv ?_; try clear hv; intro al vl' zz9 hal hpll hpl' haptl
     obtain rfl := zz9
     refine el_EAA (refs_of hpl') ?_; intro Xl zz10 hownl hXl
     obtain rfl := zz10
     have hl1 := Paired.length hownl
     have hl2 := Paired.length hownp
     have hpn : (pairsOf words).length ≤ 20 := by unfold pairsOf; rw [List.length_map, List.length_range]; lia
     rw [List.length_map] at hl1
     have F₃ := F₂.pass u₃
     exists n_loc F₃ (by trivial) (by trivial) (by trivial) (by trivial) ?_
     exists addL hpll (plUp hplp u₃) (by rw [List.length_map, List.length_map]; lia) fun D s₄ u₄ hD hl₄ => ?_
     exists spliced_none ?_
     have F₄ := F₃.pass u₄
     have W₄ := (W₂.up u₃).up u₄
     exists ⟨W₄.dc3.fn, ?_⟩
     rw [← List.map_append] at hl₄
     have hXp₂ : ∀ x ∈ Xp, x < s₂.heap.objs.size := fun x hx => by
       refine el_EAEA (Paired.memL hownp x hx) ?_; intro l _ vs e _
       exact PlainList_lt e
     have hXl₃ : ∀ x ∈ Xl, x < s₃.heap.objs.size := fun x hx => by
       refine el_EAEA (Paired.memL hownl x hx) ?_; intro l _ vs e _
       exact PlainList_lt e
     have hn1 : n ≤ s₁.heap.objs.size := F.top
     have hLn : L < n := F.hi
     have hs2 : s₁.heap.objs.size ≤ s₂.heap.objs.size := hz₂
     have hXn : ∀ x ∈ Xl ++ Xp, n ≤ x := fun x hx => by
       rcases List.mem_append.mp hx with hx | hx
       · exact Nat.le_trans hn1 (Nat.le_trans hs2 (hXl x hx))
       · exact Nat.le_trans hn1 (hXp x hx)
     have hX4 : ∀ x ∈ Xl ++ Xp, x < s₃.heap.objs.size := fun x hx => by
       rcases List.mem_append.mp hx with hx | hx
       · exact hXl₃ x hx
       · exact Nat.lt_of_lt_of_le (hXp₂ x hx) u₃.size
     have hnd : (Xl ++ Xp).Nodup := by
       refine List.nodup_append.mpr ⟨nodup_of haptl, nodup_of hapt, fun x hx y hy q => ?_⟩
       rw [q] at hx
       exact Nat.lt_irrefl _ (Nat.lt_of_lt_of_le (hXp₂ y hy) (hXl y hx))
     have u₂₄ : Up s₂ s₄ := u₃.trans u₄
     have hown : Paired (Own s₄.heap) (Xl ++ Xp) (seqsOf letters words) := by
       refine Paired.append (Paired.imp (fun x l ⟨vs, e, p⟩ => ⟨vs, plUp e u₄, rc_any p⟩) hownl) (Paired.imp (fun x l ⟨vs, e, p⟩ => ⟨vs, plUp e u₂₄, rc_any p⟩) hownp)
     have hlz2 : ∀ l ∈ seqsOf letters words, l.length ≤ 2 := seqs_len letters words
     have htot : total (seqsOf letters words) ≤ 50 := by
       have h1 := total_le hlz2
       unfold seqsOf at h1 ⊢
       rw [List.length_append, List.length_map] at h1
       lia
     have hlz : ∀ l ∈ seqsOf letters words, l.length ≤ 100 := fun l hl => Nat.le_trans (hlz2 l hl) (by decide)
     have hsl : (seqsOf letters words).length ≤ 100 := by unfold seqsOf; rw [List.length_append, List.length_map]; lia
     have hbase : Keep s.heap s₄.heap := F₄.base
     have hXs : ∀ x ∈ Xl ++ Xp, s.heap.objs.size ≤ x := fun x hx => Nat.le_trans (Nat.le_of_eq hL.symm) (Nat.le_trans (Nat.le_of_lt hLn) (hXn x hx))
     have hfrs : s₄.heap.FunFrames {} (envOfC (nmOf (stmtAt 34)) (scOf (stmtAt 34)) L P.merged cd :: outer) := by
       refine el_EA (F₄.ns) ?_; intro ml zz11 _
       refine el_EEEAA zz11 ?_; clear zz11; intro oL es ep eL dL _
       exact ⟨fun q => (by have q' : ScopeKind.function = ScopeKind.module := q; cases q'), ⟨L, oL, rfl, rfl, eL, fun vs q => by rw [dL] at q; cases q⟩, funFrames_keep hfl fun b hb o e => hbase b o e⟩
     have hXf : ∀ x ∈ Xl ++ Xp, x ∉ frs (envOfC (nmOf (stmtAt 34)) (scOf (stmtAt 34)) L P.merged cd :: outer) := fun x hx q => by
       rcases List.mem_cons.mp (show x ∈ L :: frs outer from q) with q | q
       · have := hXn x hx
         rw [q] at this
         exact Nat.lt_irrefl _ (Nat.lt_of_lt_of_le hLn this)
       · refine el_AEA (hfl.mem q) ?_; intro _ o eo _
         exact Nat.lt_irrefl _ (Nat.lt_of_lt_of_le (Heap.lt_size eo) (hXs x hx))
     refine wpAny_call (codeAny_mono (c_c3 (outer := envOfC (nmOf (stmtAt 34)) (scOf (stmtAt 34)) L P.merged cd :: outer) (f := 100) (room0 hroom) (deep_none hh _) W (kb.trans hbase) (fun x hx => Nat.le_trans hbs (hXs x hx)) hnd hl₄ (fun q => Nat.lt_irrefl _ (Nat.lt_of_lt_of_le (hX4 D q) hD)) hown hsl hlz (by lia) (by lia) (Around.frames_deeper hfr) hfrs hXf) fun r s₅ h₅ => ?_)
     have sm04 : Sm s s₄ := sm02.trans u₂₄.st
     rcases h₅ with ⟨v, l, rfl, hans, sm₅, k₅, hz₅, hv⟩ | ⟨e, t, tk, B, rfl, hans, sm₅, kB, hfly, htup, hus⟩
     · show MergedR outer (mergeOf letters words) s (.ok (.ret v)) s₅
       refine ⟨v, rfl, sm04.trans sm₅, fun b o hb e => k₅ b o (fun q => Nat.lt_irrefl _ (Nat.lt_of_lt_of_le (Heap.lt_size e) (hXs b q))) (hbase b o e), fun b hb o e => ⟨o.slots, k₅ b o (fun q => Nat.lt_irrefl _ (Nat.lt_of_lt_of_le (Heap.lt_size e) (hXs b q))) (hbase b o e)⟩, ?_⟩
       have : mergeOf letters words = some l := hans
       rw [this]
       exact (RL RC).mono (fun b hb => Nat.le_trans (Nat.le_trans (Nat.le_of_eq hL.symm) (Nat.le_of_lt hLn)) (Nat.le_trans F₄.top hb)) hv
     · have hans' : mergeOf letters words = none := hans
       have hLs : ∀ b o, s.heap.get? b = some o → b ≠ L := fun b o e q => by have := Heap.lt_size e; rw [q, hL] at this; exact Nat.lt_irrefl _ this
       have hXo : ∀ b o, s.heap.get? b = some o → b ∉ Xl ++ Xp := fun b o e q => Nat.lt_irrefl _ (Nat.lt_of_lt_of_le (Heap.lt_size e) (hXs b q))
       have kB' : ∀ b o, b ∉ frs outer → s.heap.get? b = some o → B.get? b = some o := fun b o hb e => by
         refine kB b o (hXo b o e) (fun q => ?_) (hbase b o e)
         rcases List.mem_cons.mp (show b ∈ L :: frs outer from q) with q | q
         · exact hLs b o e q
         · exact hb q
       have hbB : Keep hb B := fun b o e => kB' b o (fun q => by rw [hfb b q] at e; cases e) (kb b o e)
       exists wpAny_looks_onW (Around.frames_deeper hfr) rfl hfly fun h₆ H₆ u₆ => ?_
       exists wpAny_landsW H₆ fun h₇ H₇ u₇ => ?_
       have W₇ : Wd P mg mb h₇ := W.keeps (fun b o e => H₇.1 b o (hbB b o e))
       have hLX : L ∉ Xl ++ Xp := fun q => Nat.lt_irrefl _ (Nat.lt_of_lt_of_le hLn (hXn L q))
       have us₇ : ∀ b o, b ∉ Xl ++ Xp → s₄.heap.get? b = some o → (∀ vs, o.data ≠ .fields vs) → ∃ sl, h₇.get? b = some { o with slots := sl } := fun b o hb e hd => by
         refine el_E (hus b o hb e hd) ?_; intro sl e5
         refine el_E ((u₆.trans u₇) b _ e5 hd) ?_; intro sl' e7
         exact ⟨sl', e7⟩
       refine el_EA (H₇.there) ?_; intro ob hob hobc
       refine wpAny_handleBy_builtin_as (X := "RuntimeError") (T := "RuntimeError") (b := true) PySem.F.isExc_RuntimeError PySem.F.notTuple_RuntimeError PySem.F.self_RuntimeError ?_
       exists n_bi W₇ (by trivial) (by trivial) (by trivial) (by trivial) (by trivial) (by decide) (W.no "RuntimeError" (by decide)) (v := .type "RuntimeError") (by decide +kernel) ?_
       refine ⟨rfl, ⟨ob, hob, hobc⟩, ?_⟩
       refine lands_againW H₇ fun h₈ H₈ u₈ => ?_
       have kB8 : ∀ b o, b ∉ frs outer → s.heap.get? b = some o → h₈.get? b = some o := fun b o hb e => H₈.1 b o (kB' b o hb e)
       refine el_AA (H₈.2.2.1) ?_; intro _ zz12 _
       refine el_EEAA zz12 ?_; clear zz12; intro L' _ hfL hnL' _
       obtain rfl : L = L' := Option.some.inj hfL
       have F₈ : Fz hb (envOfC (nmOf (stmtAt 34)) (scOf (stmtAt 34)) L P.merged cd) n h₈ h₈ _ := Fz.after F₄ low (fun b o e => H₈.1 b o (hbB b o e)) (Nat.le_trans hbs (Nat.le_of_eq hL.symm))
         (fun ml hn => by
           refine el_EEEAA hn ?_; try clear hn; intro o es ep e1 e2 r
           refine el_E (us₇ _ o hLX e1 (fun vs q => by rw [e2] at q; cases q)) ?_; intro sl e7
           refine el_E (u₈ _ _ e7 (fun vs (q : o.data = .fields vs) => by rw [e2] at q; cases q)) ?_; intro sl' e8
           exact ⟨_, es, ep, e8, e2, r⟩)
         (fun x a hx o e => by
           refine el_AA (F₄.cs x a hx) ?_; intro _ c1 c2
           have c1' : L < a := c1
           refine H₈.1 a o (kB a o (fun q => Nat.lt_irrefl _ (Nat.lt_of_lt_of_le c2 (hXn a q))) (fun q => ?_) e)
           rcases List.mem_cons.mp (show a ∈ L :: frs outer from q) with q | q
           · rw [q] at c1'; exact Nat.lt_irrefl _ c1'
           · refine el_AEA (hfl.mem q) ?_; intro _ o' eo _
             have := Heap.lt_size eo
             rw [hL] at c1'
             exact Nat.lt_irrefl _ (Nat.lt_trans c1' this))
       refine st_locS (s := { s₅ with heap := h₈ }) F₈ (by trivial) (by trivial) (by trivial) fun s₉ F₉ hs₉ hb₉ sm₉ => ?_
       have W₉ := W.keeps F₉.base
       refine el_EEAAA (H₈.first) ?_; intro oe vse hoe hoec hoed hoe0
       have heL : e ≠ L := fun q => by
         refine el_EA (F₈.ns) ?_; intro ml zz13 _
         refine el_EEEAA zz13 ?_; clear zz13; intro oL es ep eL dL _
         have eL' : h₈.get? L = some oL := eL
         rw [q] at hoe; rw [hoe] at eL'; cases eL'; rw [hoed] at dL; cases dL
       refine el_EEAA htup ?_; try clear htup; intro ot nt hot hotc hotd
       have htL : t ≠ L := fun q => by rw [q, hnL'] at hot; cases hot
       have hex : s₉.heap.ExcAt e "RuntimeError" (.ref t) := ⟨oe, vse, (hb₉ e heL).trans hoe, hoec, hoed, hoe0⟩
       have htu : s₉.heap.TupAt t [.str msgC tk] := ⟨ot, nt, (hb₉ t htL).trans (H₈.1 t ot hot), hotc, hotd⟩
       refine wpAny_execs_cons ?_
       exists wpAny_Return_some ?_
       exists wpAny_Call_NameR ?_
       exists n_bi W₉ (by trivial) (by trivial) (by trivial) (by trivial) (by trivial) (by decide) (W.no "str" (by decide)) PyProof.Rows.boot_str ?_
       exists cw_type (by trivial) ?_
       exists sp_more (by trivial) ?_
       exists n_loc F₉ (by trivial) (by trivial) (by trivial) (by trivial) ?_
       exists spliced_none ?_
       have hu' : ((A.deeper (envOfC (nmOf (stmtAt 34)) (scOf (stmtAt 34)) L P.merged cd)).mark (some (.ref e))).units + 2 < cLine := by show A.units + 3 + 2 < cLine; lia
       refine PySem.P.str_of_exc_one PySem.F.excStr_RuntimeError hu' hex htu ?_
       refine el_EA (F₉.ns) ?_; intro ml hnsL _
       refine wpAny_nameGoes (by trivial) hnsL (by trivial) fun h' m' hn' hs' => ?_
       show MergedR outer (mergeOf letters words) s (.ok (.ret (.str msgC tk))) _
       have kfin : ∀ b o, b ≠ L → h₈.get? b = some o → h'.get? b = some o := fun b o hb e => (hs'.2 b hb).trans ((hb₉ b hb).trans e)
       refine ⟨_, rfl, ⟨sm₉.gens.trans (sm04.trans sm₅).gens, sm₉.drawn.trans (sm04.trans sm₅).drawn, sm₉.os.trans (sm04.trans sm₅).os⟩, fun b o hb e => kfin b o (hLs b o e) (kB8 b o hb e), fun b hb o e => ?_, ?_⟩
       · refine el_AEA (hfl.mem hb) ?_; intro _ o' eo hnf
         rw [e] at eo; cases eo
         refine el_E (us₇ b o (hXo b o e) (hbase b o e) hnf) ?_; intro sl e7
         refine el_E (u₈ _ _ e7 hnf) ?_; intro sl' e8
         exact ⟨sl', kfin b _ (hLs b o e) e8⟩
       · rw [hans']; exact ⟨tk, rfl⟩
end
noncomputable def ev {α : Type} (r : Nat → Int) : KasT α → α
 | .ret a => a
 | .ask i j k => ev r (k (decide (r i < r j)))
noncomputable def Rng {α : Type} (n : Nat) (r : Nat → Int) : KasT α → Prop
 | .ret _ => True
 | .ask i j k => i < n ∧ j < n ∧ Rng n r (k (decide (r i < r j)))
theorem ev_bind {α β : Type} {r : Nat → Int} {f : α → KasT β} : ∀ t : KasT α, ev r (t.bind f) = ev r (f (ev r t))
 | .ret _ => rfl
 | .ask _ _ k => ev_bind (k _)
theorem Rng_bind {α β : Type} {n : Nat} {r : Nat → Int} {f : α → KasT β} : ∀ {t : KasT α}, Rng n r t → Rng n r (f (ev r t)) → Rng n r (t.bind f)
 | .ret _, _, h => h
 | .ask _ _ k, h, h' => ⟨h.1, h.2.1, Rng_bind (t := k _) h.2.2 h'⟩
theorem wp_ev {α : Type} {cmp : Nat → Nat → (Bool → Shared → Prop) → Shared → Prop} {n : Nat} {r : Nat → Int} {s₀ : Shared} (hcmp : ∀ i j C s, i < n → j < n → Up s₀ s → (∀ s', Up s s' → C (decide (r i < r j)) s') → cmp i j C s) :
   ∀ (t : KasT α) {Q : α → Shared → Prop} {s : Shared}, Up s₀ s → Rng n r t → (∀ s', Up s s' → Q (ev r t) s') → t.kasWp cmp Q s
 | .ret _, _, s, _, _, h => h s (Up.refl s)
 | .ask i j k, _, _, u, hr, h => hcmp i j _ _ hr.1 hr.2.1 u fun s' u' => wp_ev hcmp (k _) (u.trans u') hr.2.2 fun s'' u'' => h s'' (u'.trans u'')
noncomputable def elemN (x : Nat × Nat) : List (Nat × Nat) → Bool
 | [] => false
 | y :: r => (Nat.beq x.1 y.1 && Nat.beq x.2 y.2) || elemN x r
noncomputable def grow (es : List (Nat × Nat)) (s : List Nat) : List Nat := es.foldl (fun s e => if s.contains e.1 then e.2 :: s else s) s
noncomputable def le? (es : List (Nat × Nat)) (a b : Nat) : Bool := elemN (a, b) es || (grow es (grow es (grow es [a]))).contains b
noncomputable def chain? (es : List (Nat × Nat)) : List Nat → Bool
 | a :: b :: r => le? es a b && chain? es (b :: r)
 | _ => true
noncomputable def chk (n : Nat) : KasT (Nat × Array Nat) → List (Nat × Nat) → Bool
 | .ret p, es => Nat.ble 1 p.1 && Nat.ble p.1 n && p.2.toList.isPerm (List.range n) && chain? es (p.2.toList.take p.1)
 | .ask i j k, es => Nat.blt i n && Nat.blt j n && chk n (k true) ((i, j) :: es) && chk n (k false) ((j, i) :: es)
noncomputable def first (n : Nat) : KasT (Nat × Array Nat) := kas_count n (List.toArray (List.range n))
theorem chk2 : chk 2 (first 2) [] = true := by decide +kernel
theorem chk3 : chk 3 (first 3) [] = true := by decide +kernel
theorem chk4 : chk 4 (first 4) [] = true := by decide +kernel
theorem chk5 : chk 5 (first 5) [] = true := by decide +kernel
theorem chk6 : chk 6 (first 6) [] = true := by decide +kernel
theorem chk7 : chk 7 (first 7) [] = true := by decide +kernel
theorem chk_all {n : Nat} (h2 : 2 ≤ n) (h7 : n ≤ 7) : chk n (first n) [] = true := by
 have : n = 2 ∨ n = 3 ∨ n = 4 ∨ n = 5 ∨ n = 6 ∨ n = 7 := by lia
 rcases this with rfl | rfl | rfl | rfl | rfl | rfl
 · exact chk2
 · exact chk3
 · exact chk4
 · exact chk5
 · exact chk6
 · exact chk7
theorem grow_sound {r : Nat → Int} {a : Nat} : ∀ {es : List (Nat × Nat)} {s : List Nat}, (∀ e ∈ es, r e.1 ≤ r e.2) → (∀ x ∈ s, r a ≤ r x) → ∀ x ∈ grow es s, r a ≤ r x
 | [], s, _, hs => hs
 | e :: es, s, he, hs => by
   unfold grow
   rw [List.foldl_cons]
   refine grow_sound (es := es) (fun e h => he e (.tail _ h)) fun x hx => ?_
   split at hx
   · rename_i hc
     rcases List.mem_cons.mp hx with rfl | hx
     · have := hs e.1 (by simpa using hc)
       have := he e (.head _)
       lia
     · exact hs x hx
   · exact hs x hx
theorem elemN_mem {x : Nat × Nat} : ∀ {l : List (Nat × Nat)}, elemN x l = true → x ∈ l
 | y :: r, h => by
   unfold elemN at h
   rw [Bool.or_eq_true, Bool.and_eq_true] at h
   rcases h with h | h
   · have h1 := Nat.eq_of_beq_eq_true h.1
     have h2 := Nat.eq_of_beq_eq_true h.2
     have : x = y := Prod.ext h1 h2
     rw [this]; exact .head _
   · exact .tail _ (elemN_mem h)
theorem le_sound {r : Nat → Int} {es : List (Nat × Nat)} {a b : Nat} (he : ∀ e ∈ es, r e.1 ≤ r e.2) (h : le? es a b = true) : r a ≤ r b := by
 unfold le? at h
 rw [Bool.or_eq_true] at h
 rcases h with h | h
 · exact he _ (elemN_mem h)
 · exact grow_sound he (grow_sound he (grow_sound he (fun x hx => by rw [List.mem_singleton.mp hx]; exact Int.le_refl _))) b (by simpa using h)
theorem chain_sound {r : Nat → Int} {es : List (Nat × Nat)} (he : ∀ e ∈ es, r e.1 ≤ r e.2) : ∀ {l : List Nat}, chain? es l = true → l.Pairwise fun a b => r a ≤ r b
 | [], _ => .nil
 | [a], _ => List.pairwise_singleton _ _
 | a :: b :: t, h => by
   unfold chain? at h
   rw [Bool.and_eq_true] at h
   have h1 := le_sound he h.1
   have h2 := chain_sound he h.2
   refine List.pairwise_cons.mpr ⟨fun x hx => ?_, h2⟩
   rcases List.mem_cons.mp hx with rfl | hx
   · exact h1
   · have := (List.pairwise_cons.mp h2).1 x hx
     lia
theorem chk_sound {n : Nat} {r : Nat → Int} : ∀ {t : KasT (Nat × Array Nat)} {es : List (Nat × Nat)}, chk n t es = true → (∀ e ∈ es, r e.1 ≤ r e.2) →
   Rng n r t ∧ 1 ≤ (ev r t).1 ∧ (ev r t).1 ≤ n ∧ (ev r t).2.toList.Perm (List.range n) ∧ ((ev r t).2.toList.take (ev r t).1).Pairwise fun a b => r a ≤ r b
 | .ret p, es, h, he => by
   unfold chk at h
   rw [Bool.and_eq_true, Bool.and_eq_true, Bool.and_eq_true] at h
   refine el_A h ?_; try clear h; intro zz0 h4
   refine el_A zz0 ?_; clear zz0; intro zz1 h3
   refine el_A zz1 ?_; clear zz1; intro h1 h2
   exact ⟨trivial, Nat.le_of_ble_eq_true h1, Nat.le_of_ble_eq_true h2, List.isPerm_iff.mp h3, chain_sound he h4⟩
 | .ask i j k, es, h, he => by
   unfold chk at h
   rw [Bool.and_eq_true, Bool.and_eq_true, Bool.and_eq_true] at h
   refine el_A h ?_; try clear h; intro zz2 h4
   refine el_A zz2 ?_; clear zz2; intro zz3 h3
   refine el_A zz3 ?_; clear zz3; intro h1 h2
   have hi : i < n := Nat.le_of_ble_eq_true h1
   have hj : j < n := Nat.le_of_ble_eq_true h2
   by_cases q : r i < r j
   · have := chk_sound (t := k true) h3 (fun e hm => by
       rcases List.mem_cons.mp hm with rfl | hm
       · exact Int.le_of_lt q
       · exact he e hm)
     unfold Rng ev
     rw [decide_eq_true q]
     exact ⟨⟨hi, hj, this.1⟩, this.2⟩
   · have := chk_sound (t := k false) h4 (fun e hm => by
       rcases List.mem_cons.mp hm with rfl | hm
       · exact Int.not_lt.mp q
       · exact he e hm)
     unfold Rng ev
     rw [decide_eq_false q]
     exact ⟨⟨hi, hj, this.1⟩, this.2⟩
noncomputable def SortedP (r : Nat → Int) (p : Array Nat) (k : Nat) : Prop := ∀ i j, i ≤ j → j < k → r (p.getD i 0) ≤ r (p.getD j 0)
theorem perm_lt {n : Nat} {p : Array Nat} (hp : p.toList.Perm (List.range n)) {x : Nat} (hx : x < n) : p.getD x 0 < n := by
 have hs : p.toList.length = n := by rw [hp.length_eq, List.length_range]
 have hx' : x < p.size := by rw [← Array.length_toList, hs]; exact hx
 have : p.getD x 0 = p[x] := by simp [Array.getD, hx']
 rw [this]
 have hm : p[x] ∈ p.toList := Array.getElem_mem_toList _
 exact List.mem_range.mp (hp.mem_iff.mp hm)
theorem place_ok {n k : Nat} {r : Nat → Int} {p : Array Nat} (hp : p.toList.Perm (List.range n)) (hk : k < n) (hs : SortedP r p k) :
   ∀ (f l rr : Nat), l ≤ rr → rr ≤ k → (∀ x, x < l → r (p.getD x 0) ≤ r (p.getD k 0)) → (∀ x, rr ≤ x → x < k → r (p.getD k 0) < r (p.getD x 0)) → rr - l ≤ f →
   Rng n r (kas_place p k f l rr) ∧ ev r (kas_place p k f l rr) ≤ k ∧ (∀ x, x < ev r (kas_place p k f l rr) → r (p.getD x 0) ≤ r (p.getD k 0)) ∧ (∀ x, ev r (kas_place p k f l rr) ≤ x → x < k → r (p.getD k 0) < r (p.getD x 0))
 | 0, l, rr, h1, h2, h3, h4, h5 => by
   have : l = rr := by lia
   subst this
   exact ⟨trivial, h2, h3, h4⟩
 | f + 1, l, rr, h1, h2, h3, h4, h5 => by
   unfold kas_place
   by_cases hlr : l ≥ rr
   · rw [if_pos hlr]
     have : l = rr := by lia
     subst this
     exact ⟨trivial, h2, h3, h4⟩
   · rw [if_neg hlr]
     unfold Rng ev
     by_cases q : r (p.getD k 0) < r (p.getD ((l + rr) / 2) 0)
     · rw [decide_eq_true q]
       simp only [if_true]
       have ih := place_ok hp hk hs f l ((l + rr) / 2) (by lia) (by lia) h3 (fun x hx hxk => by
         have := hs ((l + rr) / 2) x hx hxk
         lia) (by lia)
       exact ⟨⟨perm_lt hp hk, perm_lt hp (by lia), ih.1⟩, ih.2⟩
     · rw [decide_eq_false q]
       simp only [Bool.false_eq_true, if_false]
       have ih := place_ok hp hk hs f ((l + rr) / 2 + 1) rr (by lia) h2 (fun x hx => by
         by_cases hx' : x < l
         · exact h3 x hx'
         · have := hs x ((l + rr) / 2) (by lia) (by lia)
           lia) h4 (by lia)
       exact ⟨⟨perm_lt hp hk, perm_lt hp (by lia), ih.1⟩, ih.2⟩
theorem getD_bubble {p : Array Nat} {k l : Nat} (hk : k < p.size) (hl : l ≤ k) (x : Nat) : (bubble p k (k - l)).getD x 0 = if x = l then p.getD k 0 else if l < x ∧ x ≤ k then p.getD (x - 1) 0 else p.getD x 0 := by
 have h := getElem?_bubble hk (k - l) (by lia) x
 have e : k - (k - l) = l := by lia
 rw [e] at h
 have conv : ∀ (q : Array Nat) y, q.getD y 0 = q[y]?.getD 0 := fun q y => by simp [Array.getD_eq_getD_getElem?]
 rw [conv, conv p k, conv p (x - 1), conv p x, h]
 split
 · rfl
 · split <;> rfl
theorem bin_ok {n : Nat} {r : Nat → Int} : ∀ (f : Nat) (p : Array Nat) (k : Nat), k + f = n → p.toList.Perm (List.range n) → SortedP r p k →
   Rng n r (kas_bin f p k) ∧ (ev r (kas_bin f p k)).toList.Perm (List.range n) ∧ SortedP r (ev r (kas_bin f p k)) n
 | 0, p, k, hk, hp, hs => by
   have : k = n := by lia
   subst this
   exact ⟨trivial, hp, hs⟩
 | f + 1, p, k, hk, hp, hs => by
   have hkn : k < n := by lia
   have hsz : p.size = n := by rw [← Array.length_toList, hp.length_eq, List.length_range]
   refine el_AAA (place_ok hp hkn hs k 0 k (Nat.zero_le _) (Nat.le_refl _) (fun x hx => absurd hx (Nat.not_lt_zero _)) (fun x h1 h2 => absurd h2 (Nat.not_lt.mpr h1)) (by lia)) ?_; intro a1 a2 a3 a4
   have ih := bin_ok (n := n) (r := r) f (bubble p k (k - ev r (kas_place p k k 0 k))) (k + 1) (by lia) ((Array.perm_iff_toList_perm.mp (bubble_perm p k _)).trans hp) (by
     generalize ev r (kas_place p k k 0 k) = l at a2 a3 a4
     intro i j hij hj
     rw [getD_bubble (by lia) a2, getD_bubble (by lia) a2]
     by_cases hi1 : i = l
     · rw [if_pos hi1]
       by_cases hj1 : j = l
       · rw [if_pos hj1]; exact Int.le_refl _
       · rw [if_neg hj1, if_pos (by lia)]
         exact Int.le_of_lt (a4 (j - 1) (by lia) (by lia))
     · rw [if_neg hi1]
       by_cases hi2 : l < i ∧ i ≤ k
       · rw [if_pos hi2, if_neg (by lia), if_pos (by lia)]
         exact hs (i - 1) (j - 1) (by lia) (by lia)
       · rw [if_neg hi2]
         by_cases hj1 : j = l
         · rw [if_pos hj1]
           exact a3 i (by lia)
         · rw [if_neg hj1]
           by_cases hj2 : l < j ∧ j ≤ k
           · rw [if_pos hj2]
             by_cases hjl : j - 1 = l - 1
             · lia
             · exact hs i (j - 1) (by lia) (by lia)
           · rw [if_neg hj2]
             exact hs i j hij (by lia))
   have e : ev r (kas_bin (f + 1) p k) = ev r (kas_bin f (bubble p k (k - ev r (kas_place p k k 0 k))) (k + 1)) := ev_bind _
   rw [e]
   exact ⟨Rng_bind a1 ih.1, ih.2⟩
theorem sort_ok {n : Nat} {r : Nat → Int} (h2 : 2 ≤ n) (h7 : n ≤ 7) : Rng n r (kas_sort n) ∧ (ev r (kas_sort n)).toList.Perm (List.range n) ∧ SortedP r (ev r (kas_sort n)) n := by
 refine el_AAAA (chk_sound (r := r) (chk_all h2 h7) (fun e h => by cases h)) ?_; intro c1 c2 c3 c4 c5
 have e : ev r (kas_sort n) = ev r (if (ev r (first n)).1 < n then kas_bin (n - max (ev r (first n)).1 1) (ev r (first n)).2 (max (ev r (first n)).1 1) else .ret (ev r (first n)).2) := ev_bind _
 have hs : SortedP r (ev r (first n)).2 (ev r (first n)).1 := by
   generalize ev r (first n) = q at c2 c3 c4 c5
   have hsz : q.2.size = n := by rw [← Array.length_toList, c4.length_eq, List.length_range]
   intro i j hij hj
   by_cases q' : i = j
   · subst q'; exact Int.le_refl _
   · have hlen : (q.2.toList.take q.1).length = q.1 := by rw [List.length_take, Array.length_toList, hsz]; lia
     have := (List.pairwise_iff_getElem.mp c5) i j (by lia) (by lia) (by lia)
     rw [List.getElem_take, List.getElem_take] at this
     have g : ∀ x (hx : x < q.2.toList.length), q.2.getD x 0 = q.2.toList[x] := fun x hx => by
       have hx' : x < q.2.size := by rw [← Array.length_toList]; exact hx
       simp [Array.getD, hx']
     rw [g i (by rw [Array.length_toList]; lia), g j (by rw [Array.length_toList]; lia)]
     exact this
 by_cases hlt : (ev r (first n)).1 < n
 · rw [if_pos hlt] at e
   have hm : max (ev r (first n)).1 1 = (ev r (first n)).1 := by lia
   rw [hm] at e
   have ih := bin_ok (n - (ev r (first n)).1) (ev r (first n)).2 (ev r (first n)).1 (by lia) c4 hs
   rw [e]
   refine ⟨Rng_bind c1 ?_, ih.2⟩
   show Rng n r (if (ev r (first n)).1 < n then kas_bin (n - max (ev r (first n)).1 1) (ev r (first n)).2 (max (ev r (first n)).1 1) else .ret (ev r (first n)).2)
   rw [if_pos hlt, hm]
   exact ih.1
 · rw [if_neg hlt] at e
   rw [e]
   refine ⟨Rng_bind c1 ?_, c4, ?_⟩
   · show Rng n r (if (ev r (first n)).1 < n then kas_bin (n - max (ev r (first n)).1 1) (ev r (first n)).2 (max (ev r (first n)).1 1) else .ret (ev r (first n)).2)
     rw [if_neg hlt]; trivial
   · have : (ev r (first n)).1 = n := by lia
     rw [this] at hs
     exact hs
section
variable {prog : Program} {w : World} {A : Around} {E : Value → Shared → Prop} {s : Shared} {s₀ : Shared}
theorem sort_core {it : Array Keyed} {r : Nat → Int} {Q : Unit → SortSt → Shared → Prop} (h2 : 2 ≤ it.size) (h7 : it.size ≤ 7)
   (hcmp : ∀ i j C s', i < it.size → j < it.size → Up s s' → (∀ s'', Up s' s'' → C (decide (r i < r j)) s'') → kas_cmp prog w A oneType' it i j C s')
   (fin : ∀ p st' s', Up s s' → p.toList.Perm (List.range it.size) → SortedP r p it.size → arrOf st' = p.map (kas_item it) → failedOf st' = none → Q () st' s') :
   kasC (model prog w) A E sortRuns' Q (SortSt.mk' oneType' it #[] 7 none) s := by
 refine el_AA (sort_ok (r := r) h2 h7) ?_; intro a1 a2 a3
 have run := kas_runs (prog := prog) (w := w) (A := A) (E := E) (κ := oneType') (it := it) (s := s) (Q := Q) (G := fun p s' => Up s s' ∧ p.toList.Perm (List.range it.size) ∧ SortedP r p it.size) h2 (by lia)
   (fun p st' s' b1 b2 b3 b4 => fin p st' s' b4.1 b4.2.1 b4.2.2 b2 b3) (wp_ev hcmp _ (Up.refl s) a1 fun s' u => ⟨u, a2, a3⟩)
 have est : kas_st oneType' it (List.toArray (List.range it.size)) = SortSt.mk' oneType' it #[] 7 none := by
   unfold kas_st
   rw [kas_range]
 rw [est] at run
 exact run
theorem sort_plain {a : Addr} {vs : List Value} {n : Nat} {T : Value} {r : Nat → Int} {R : PySem.Fin → Shared → Prop} (u₀ : Up s₀ s) (ha : s₀.heap.objs.size ≤ a) (ho : s.heap.get? a = some (seqObj "list" (List.toArray vs) n)) (h2 : 2 ≤ vs.length) (h7 : vs.length ≤ 7)
   (hT : ∀ s', Up s₀ s' → ∀ v ∈ vs, Looks (model prog w) s'.heap (typeOf v) T) (hT1 : (T != Value.type "tuple") = true) (hT2 : (T == T) = true)
   (hcmp : ∀ i j C s', i < vs.length → j < vs.length → Up s₀ s' → (∀ s'', Up s' s'' → C (decide (r i < r j)) s'') → wpAny (model prog w) A (keyLt' oneType' (vs.getD i .none) (vs.getD j .none)) C (fun _ _ => False) s')
   (fin : ∀ p s' c, Up s₀ s' → p.toList.Perm (List.range vs.length) → SortedP r p vs.length → s'.heap.get? a = some (seqObj "list" (List.toArray (p.toList.map fun i => vs.getD i .none)) c) → R (.done (.ret .none)) s') :
   wpAny (model prog w) A (Builtin.«list.sort» ⟨[.ref a], []⟩) R E s := by
 have keep0 : ∀ {h h' : Heap}, Keep s₀.heap h → Heap.SameBut a h h' → Keep s₀.heap h' := fun k hs b o e => (hs.2 b fun q => by have := Heap.lt_size e; rw [q] at this; exact Nat.lt_irrefl _ (Nat.lt_of_lt_of_le this ha)).trans (k b o e)
 have s1 := Heap.SameBut.update s.heap a (Obj.mapSeq fun _ => (#[] : Array Value))
 refine el_E (show ∃ e1, (s.heap.update a (Obj.mapSeq fun _ => (#[] : Array Value))).get? a = some (seqObj "list" #[] e1) from ⟨_, get?_update_seq ho fun _ => #[]⟩) ?_; intro e1 ho1
 have k1 := keep0 u₀.keep s1
 generalize hH : s.heap.update a (Obj.mapSeq fun _ => (#[] : Array Value)) = H at s1 ho1 k1
 rw [list_sort_plain]
 refine wpAny_bind (listItems_at ho rfl ?_)
 refine wpAny_bind (listUpdate_at ho rfl ?_ (by rw [List.size_toArray, sizeLine_eq]; lia) (Nat.zero_le _))
 rw [hH]
 refine wpAny_bind (seqEpoch_at ho1 rfl ?_)
 refine wpAny_bind (wpAny_newTuple ?_ (by show vs.length ≤ _; rw [sizeLine_eq]; lia))
 refine wpAny_bind (wpAny_newList ?_ (Nat.zero_le _))
 refine wpAny_holding ?_
 have hn2 : ¬ (List.toArray vs).size < 2 := by rw [List.size_toArray]; lia
 rw [if_neg hn2, if_neg hn2]
 have u₁ : Up s₀ { s with heap := (H.push (seqObj "tuple" (List.toArray vs) 0)).push (seqObj "list" #[] 0) } := ⟨⟨u₀.st.gens, u₀.st.drawn, u₀.st.os⟩, k1.trans ((Keep.push _ _).trans (Keep.push _ _)), by
   show _ ≤ ((H.push _).push _).objs.size
   rw [Heap.size_push, Heap.size_push, s1.1]; have := u₀.size; lia⟩
 have ho2 : ((H.push (seqObj "tuple" (List.toArray vs) 0)).push (seqObj "list" #[] 0)).get? a = some (seqObj "list" #[] e1) := Heap.get?_push_of_some _ (Heap.get?_push_of_some _ ho1)
 show wpAny (model prog w) A _ R E { s with heap := (H.push (seqObj "tuple" (List.toArray vs) 0)).push (seqObj "list" #[] 0) }
 have ho2' : ({ s with heap := (H.push (seqObj "tuple" (List.toArray vs) 0)).push (seqObj "list" #[] 0) } : Shared).heap.get? a = some (seqObj "list" #[] e1) := ho2
 generalize ({ s with heap := (H.push (seqObj "tuple" (List.toArray vs) 0)).push (seqObj "list" #[] 0) } : Shared) = s₁ at u₁ ho2'
 refine wpAny_bind (kas_kind h2 (hT s₁ u₁) hT1 hT2 ?_)
 have hps := pairsOf_size vs
 have run := sort_core (prog := prog) (w := w) (A := A) (E := E) (s := s₁) (it := PyProof.Rows.pairsOf vs) (r := r) (Q := fun _ st' s' => ∃ p : Array Nat, Up s₁ s' ∧ p.toList.Perm (List.range vs.length) ∧ SortedP r p vs.length ∧ arrOf st' = p.map (kas_item (PyProof.Rows.pairsOf vs)) ∧ failedOf st' = none) (by lia) (by lia)
   (fun i j C s' hi hj u h => by
     unfold kas_cmp
     rw [kas_item_eq, kas_item_eq]
     exact hcmp i j C s' (by lia) (by lia) (u₁.trans u) h)
   (fun p st' s' u b1 b2 b3 b4 => ⟨p, u, by rw [← hps]; exact b1, by rw [← hps]; exact b2, b3, b4⟩)
 refine wpAny_bind (wpAny_mono run ?_ fun _ _ e => e)
 rintro ⟨⟨⟩, st'⟩ s' ⟨p, u, hp, hs, har, hf⟩
 have ho3 := u.keep _ _ ho2'
 have hout : (arrOf st').map (·.2) = List.toArray (p.toList.map fun i => vs.getD i .none) := by
   apply Array.toList_inj.mp
   rw [har, Array.map_map, Array.toList_map]
   exact List.map_congr_left fun i _ => by show (kas_item (PyProof.Rows.pairsOf vs) i).2 = _; rw [kas_item_eq]
 have hsz : (List.toArray (p.toList.map fun i => vs.getD i Value.none)).size = vs.length := by rw [List.size_toArray, List.length_map, hp.length_eq, List.length_range]
 dsimp only
 rw [hout]
 have s2 := Heap.SameBut.update s'.heap a (Obj.mapSeq fun _ => List.toArray (p.toList.map fun i => vs.getD i Value.none))
 refine el_E (show ∃ c2, (s'.heap.update a (Obj.mapSeq fun _ => List.toArray (p.toList.map fun i => vs.getD i Value.none))).get? a = some (seqObj "list" (List.toArray (p.toList.map fun i => vs.getD i Value.none)) c2) from ⟨_, get?_update_seq ho3 fun _ => List.toArray (p.toList.map fun i => vs.getD i Value.none)⟩) ?_; intro c2 hc2
 refine wpAny_bind (seqEpoch_at ho3 rfl ?_)
 refine wpAny_bind (listUpdate_at ho3 rfl ?_ (Nat.zero_le _) (Nat.le_trans (Nat.le_of_eq hsz) (by rw [sizeLine_eq]; lia)))
 rw [hf]
 simp only [bne_self_eq_false, Bool.false_eq_true, if_false]
 have u' := u₁.trans u
 refine wpAny_pure (fin p _ c2 ⟨⟨u'.st.gens, u'.st.drawn, u'.st.os⟩, keep0 u'.keep s2, ?_⟩ hp hs hc2)
 rw [s2.1]; exact u'.size
theorem sorted_plain {l : Addr} {vs : List Value} {T : Value} {r : Nat → Int} {Q : Value → Shared → Prop} (hl : s.heap.PlainList l (List.toArray vs)) (h2 : 2 ≤ vs.length) (h7 : vs.length ≤ 7)
   (hT : ∀ s', Up s s' → ∀ v ∈ vs, Looks (model prog w) s'.heap (typeOf v) T) (hT1 : (T != Value.type "tuple") = true) (hT2 : (T == T) = true)
   (hcmp : ∀ i j C s', i < vs.length → j < vs.length → Up s s' → (∀ s'', Up s' s'' → C (decide (r i < r j)) s'') → wpAny (model prog w) A.in1.in1 (keyLt' oneType' (vs.getD i .none) (vs.getD j .none)) C (fun _ _ => False) s')
   (fin : ∀ D p s', Up s s' → s.heap.objs.size ≤ D → p.toList.Perm (List.range vs.length) → SortedP r p vs.length → s'.heap.PlainList D (List.toArray (p.toList.map fun i => vs.getD i .none)) → Q (.ref D) s') :
   wpAny (model prog w) A (call (.builtin "sorted") [.ref l]) Q E s := by
 refine Calls.call_function_entry kind_sorted plain_sorted entry_sorted (args_sorted1 _) ?_
 unfold Builtin.«sorted»
 refine wpAny_bind (m := checkCount "sorted" 1 1 _) (wpAny_pure ?_)
 refine wpAny_bind (collect_list hl.isList ?_ (by rw [sizeLine_eq]; lia))
 refine wpAny_bind (wpAny_newList ?_ (by rw [sizeLine_eq]; lia))
 have hsz : ((s.heap.push (seqObj "list" #[] 0)).update s.heap.objs.size (Obj.mapSeq (· ++ List.toArray vs))).objs.size = s.heap.objs.size + 1 := by
   rw [Heap.size_update, Heap.size_push]
 have hoL : (((s.heap.push (seqObj "list" #[] 0)).update s.heap.objs.size (Obj.mapSeq (· ++ List.toArray vs))).push (seqObj "list" (List.toArray vs) 0)).get? (s.heap.objs.size + 1) = some (seqObj "list" (List.toArray vs) 0) := by
   rw [← hsz]; exact Heap.get?_push_size _ rfl
 have keep : Keep s.heap (((s.heap.push (seqObj "list" #[] 0)).update s.heap.objs.size (Obj.mapSeq (· ++ List.toArray vs))).push (seqObj "list" (List.toArray vs) 0)) := fun b o q => by
   have hlt : b < s.heap.objs.size := Heap.lt_size q
   rw [Heap.get?_push_ne _ _ _ (by rw [hsz]; exact Nat.ne_of_lt (Nat.lt_succ_of_lt hlt)), Heap.get?_update_ne _ _ _ _ (Nat.ne_of_lt hlt), Heap.get?_push_ne _ _ _ (Nat.ne_of_lt hlt)]
   exact q
 show wpAny _ _ _ _ _ { s with heap := ((s.heap.push (seqObj "list" #[] 0)).update s.heap.objs.size (Obj.mapSeq (· ++ List.toArray vs))).push (seqObj "list" (List.toArray vs) 0) }
 rw [hsz]
 have u₁ : Up s { s with heap := ((s.heap.push (seqObj "list" #[] 0)).update s.heap.objs.size (Obj.mapSeq (· ++ List.toArray vs))).push (seqObj "list" (List.toArray vs) 0) } := ⟨⟨rfl, rfl, rfl⟩, keep, by
   show _ ≤ (((s.heap.push (seqObj "list" #[] 0)).update s.heap.objs.size (Obj.mapSeq (· ++ List.toArray vs))).push _).objs.size
   rw [Heap.size_push, hsz]; lia⟩
 refine wpAny_bind (wpAny_holding (wpAny_call_entry slot_list_sort ⟨_, hoL, rfl⟩ entry_list_sort ?_ (args_list_sort _)))
 refine sort_plain u₁ (Nat.le_succ _) hoL h2 h7 hT hT1 hT2 hcmp fun p s' c u' hp hs ho => ⟨_, rfl, wpAny_pure ⟨_, rfl, ?_⟩⟩
 exact fin _ p s' u' (Nat.le_succ _) hp hs ⟨c, ho⟩
end
theorem item_zip (keys : List Value) (vs : List Value) (hl : keys.length = vs.length) (i : Nat) : kas_item ((List.toArray keys).zip (List.toArray vs)) i = (keys.getD i .none, vs.getD i .none) := by
 unfold kas_item
 by_cases h : i < vs.length
 · have h' : i < ((List.toArray keys).zip (List.toArray vs)).size := by simp; lia
   have hk : i < keys.length := by lia
   have hm : i < min keys.length vs.length := by lia
   simp [Array.getD, h, hk, hm]
 · have h' : ¬ i < ((List.toArray keys).zip (List.toArray vs)).size := by simp; lia
   have hk : ¬ i < keys.length := by lia
   have hm : ¬ i < min keys.length vs.length := by lia
   simp [Array.getD, h, hk, hm]
section
variable {prog : Program} {w : World} {A : Around} {E : Value → Shared → Prop} {s : Shared} {s₀ : Shared} {κ : Type}
theorem sort_key {a : Addr} {f : Value} {vs : List Value} {ks : List κ} {RK : Rel κ} {n : Nat} {T : Value} {r : Nat → Int} {R : PySem.Fin → Shared → Prop} (u₀ : Up s₀ s) (ha : s₀.heap.objs.size ≤ a) (ho : s.heap.get? a = some (seqObj "list" (List.toArray vs) n)) (h2 : 2 ≤ vs.length) (h7 : vs.length ≤ 7) (hlen : ks.length = vs.length)
   (hkey : ∀ (i : Nat) v x s' (Q' : Value → Shared → Prop), vs[i]? = some v → ks[i]? = some x → Up s₀ s' → (∀ kv s'', Up s' s'' → RK.r (fun b => s'.heap.objs.size ≤ b) s''.heap kv x → Q' kv s'') → wpAny (model prog w) A (call f [v]) Q' (fun _ _ => False) s')
   (hT : ∀ s' kv x, x ∈ ks → RK.r All s'.heap kv x → Up s₀ s' → Looks (model prog w) s'.heap (typeOf kv) T) (hT1 : (T != Value.type "tuple") = true) (hT2 : (T == T) = true)
   (hcmp : ∀ (i j : Nat) x y kx ky C s', ks[i]? = some x → ks[j]? = some y → RK.r All s'.heap kx x → RK.r All s'.heap ky y → Up s₀ s' → (∀ s'', Up s' s'' → C (decide (r i < r j)) s'') → wpAny (model prog w) A (keyLt' oneType' kx ky) C (fun _ _ => False) s')
   (fin : ∀ p s' c, Up s₀ s' → p.toList.Perm (List.range vs.length) → SortedP r p vs.length → s'.heap.get? a = some (seqObj "list" (List.toArray (p.toList.map fun i => vs.getD i .none)) c) → R (.done (.ret .none)) s') :
   wpAny (model prog w) A (ksk_tree a f false) R E s := by
 have keep0 : ∀ {b : Addr} {h h' : Heap}, s₀.heap.objs.size ≤ b → Keep s₀.heap h → Heap.SameBut b h h' → Keep s₀.heap h' := fun hb k hs c o e => (hs.2 c fun q => by have := Heap.lt_size e; rw [q] at this; exact Nat.lt_irrefl _ (Nat.lt_of_lt_of_le this hb)).trans (k c o e)
 have s1 := Heap.SameBut.update s.heap a (Obj.mapSeq fun _ => (#[] : Array Value))
 refine el_E (show ∃ e1, (s.heap.update a (Obj.mapSeq fun _ => (#[] : Array Value))).get? a = some (seqObj "list" #[] e1) from ⟨_, get?_update_seq ho fun _ => #[]⟩) ?_; intro e1 ho1
 have k1 := keep0 ha u₀.keep s1
 have halt : a < s.heap.objs.size := Heap.lt_size ho
 generalize hH : s.heap.update a (Obj.mapSeq fun _ => (#[] : Array Value)) = H at s1 ho1 k1
 unfold ksk_tree
 refine wpAny_bind (listItems_at ho rfl ?_)
 refine wpAny_bind (listUpdate_at ho rfl ?_ (by rw [List.size_toArray, sizeLine_eq]; lia) (Nat.zero_le _))
 rw [hH]
 refine wpAny_bind (seqEpoch_at ho1 rfl ?_)
 refine wpAny_bind (wpAny_newTuple ?_ (by show vs.length ≤ _; rw [sizeLine_eq]; lia))
 refine wpAny_bind (wpAny_newList ?_ (Nat.zero_le _))
 refine wpAny_holding ?_
 generalize hkS : (H.push (seqObj "tuple" (List.toArray vs) 0)).objs.size = kS
 have hkSn : kS = s.heap.objs.size + 1 := by rw [← hkS, Heap.size_push, s1.1]
 have hkS0 : s₀.heap.objs.size ≤ kS := by have := u₀.size; lia
 have hka : kS ≠ a := Nat.ne_of_gt (by rw [hkSn]; exact Nat.lt_succ_of_lt halt)
 have u₁ : Up s₀ { s with heap := (H.push (seqObj "tuple" (List.toArray vs) 0)).push (seqObj "list" #[] 0) } := ⟨⟨u₀.st.gens, u₀.st.drawn, u₀.st.os⟩, k1.trans ((Keep.push _ _).trans (Keep.push _ _)), by
   show _ ≤ ((H.push _).push _).objs.size
   rw [Heap.size_push, hkS]; lia⟩
 have ho2 : ({ s with heap := (H.push (seqObj "tuple" (List.toArray vs) 0)).push (seqObj "list" #[] 0) } : Shared).heap.get? a = some (seqObj "list" #[] e1) := Heap.get?_push_of_some _ (Heap.get?_push_of_some _ ho1)
 have hk2 : ({ s with heap := (H.push (seqObj "tuple" (List.toArray vs) 0)).push (seqObj "list" #[] 0) } : Shared).heap.get? kS = some (seqObj "list" #[] 0) := hkS ▸ Heap.get?_push_size _ rfl
 show wpAny (model prog w) A (ksk_rest a f false (List.toArray vs) e1 (.ref kS)) R E { s with heap := (H.push (seqObj "tuple" (List.toArray vs) 0)).push (seqObj "list" #[] 0) }
 generalize ({ s with heap := (H.push (seqObj "tuple" (List.toArray vs) 0)).push (seqObj "list" #[] 0) } : Shared) = s₁ at u₁ ho2 hk2
 unfold ksk_rest
 refine wpAny_bind (wpAny_rule ?_)
 rw [List.forIn_toArray]
 refine wpAny_bind (ksk_fold (fun i s' => ∃ kA e, Up s₀ s' ∧ s'.heap.get? kS = some (seqObj "list" (List.toArray kA) e) ∧ s'.heap.get? a = some (seqObj "list" #[] e1) ∧ ∀ h'', KeepOn (fun b => kS < b) s'.heap h'' → Paired (RK.r (fun b => kS < b) h'') kA (ks.take i)) vs 0 s₁
   ⟨[], 0, u₁, hk2, ho2, fun _ _ => by simpa using Paired.nil⟩ ?step ?done)
 case step =>
   intro j v s' hv zzM28_58_4
   refine el_EEAAA zzM28_58_4 ?_; clear zzM28_58_4; intro kA e u' hk' ha' hp'
   simp only [Nat.zero_add] at hp' ⊢
   have hj : j < vs.length := (List.getElem?_eq_some_iff.mp hv).1
   refine el_E (show ∃ x, ks[j]? = some x from ⟨_, List.getElem?_eq_getElem (by lia)⟩) ?_; intro x hx
   have hkl : kA.length ≤ 7 := by
     have := Paired.length (hp' _ (KeepOn.refl _ _))
     rw [List.length_take] at this; lia
   refine wpAny_bind (wpAny_attempt (wpAny_mono (hkey j v x s' (fun kv s'' => Up s' s'' ∧ RK.r (fun b => s'.heap.objs.size ≤ b) s''.heap kv x) hv hx u' fun kv s'' u'' hR => ⟨u'', hR⟩) (fun kv s'' ⟨u'', hR⟩ => ?_) fun _ _ h => h.elim))
   dsimp only
   have hk'' := u''.keep _ _ hk'
   have ha'' := u''.keep _ _ ha'
   have t1 := Heap.SameBut.update s''.heap kS (Obj.mapSeq (·.push kv))
   refine el_E (show ∃ c2, (s''.heap.update kS (Obj.mapSeq (·.push kv))).get? kS = some (seqObj "list" ((List.toArray kA).push kv) c2) from ⟨_, get?_update_seq hk'' (·.push kv)⟩) ?_; intro c2 hc2
   refine wpAny_bind (listUpdate_at hk'' rfl ?_ (by rw [List.size_toArray, sizeLine_eq]; lia) (by rw [Array.size_push, List.size_toArray, sizeLine_eq]; lia))
   have u2 := u'.trans u''
   have hkSs : kS < s'.heap.objs.size := Heap.lt_size hk'
   refine wpAny_pure ⟨rfl, kA ++ [kv], c2, ⟨⟨u2.st.gens, u2.st.drawn, u2.st.os⟩, keep0 hkS0 u2.keep t1, by rw [t1.1]; exact u2.size⟩, by rw [List.push_toArray] at hc2; exact hc2, (t1.2 _ (Ne.symm hka)).trans ha'', fun h'' kk => ?_⟩
   have ek : ks.take (j + 1) = ks.take j ++ [x] := by rw [List.take_add_one, hx]; rfl
   rw [ek]
   have nk : ∀ b : Nat, kS < b → b ≠ kS := fun b hb => Nat.ne_of_gt hb
   refine Paired.snoc (hp' h'' fun b o hb e => kk b o hb ((t1.2 b (nk b hb)).trans (u''.keep b o e))) ?_
   refine RK.mono (fun b hb => Nat.lt_of_lt_of_le hkSs hb) (RK.up (fun b o hb e => ?_) hR)
   have hb' : kS < b := Nat.lt_of_lt_of_le hkSs hb
   exact kk b o hb' ((t1.2 b (nk b hb')).trans e)
 case done =>
   intro s' zzM28_83_1
   refine el_EEAAA zzM28_83_1 ?_; clear zzM28_83_1; intro kA e u' hk' ha' hp'
   have e3 : ks.take (0 + vs.length) = ks := List.take_of_length_le (by lia)
   rw [e3] at hp'
   have hpn := hp' _ (KeepOn.refl _ _)
   have hkl := Paired.length hpn
   try dsimp only
   refine wpAny_bind (listItems_at hk' rfl ?_)
   unfold ksk_end
   simp only [Bool.false_eq_true, if_false]
   have hn2 : ¬ (List.toArray vs).size < 2 := by rw [List.size_toArray]; lia
   rw [if_neg hn2, if_neg hn2]
   refine wpAny_bind (kas_kind (T := T) (by lia) (fun kv hkv => ?_) hT1 hT2 ?_)
   · obtain ⟨i, hi, zz0⟩ := List.getElem_of_mem hkv
     obtain rfl := zz0
     refine el_EA (Paired.get' hpn (List.getElem?_eq_getElem hi)) ?_; intro x hx hR
     exact hT s' _ x (List.mem_of_getElem? hx) (RK.mono (fun _ _ => trivial) hR) u'
   have hzs : ((List.toArray kA).zip (List.toArray vs)).size = vs.length := by rw [Array.size_zip, List.size_toArray, List.size_toArray]; lia
   have hit := item_zip kA vs (by lia)
   have run := sort_core (prog := prog) (w := w) (A := A) (E := E) (s := s') (it := (List.toArray kA).zip (List.toArray vs)) (r := r) (Q := fun _ st' s'' => ∃ p : Array Nat, Up s' s'' ∧ p.toList.Perm (List.range vs.length) ∧ SortedP r p vs.length ∧ arrOf st' = p.map (kas_item ((List.toArray kA).zip (List.toArray vs))) ∧ failedOf st' = none) (by lia) (by lia)
     (fun i j C s'' hi hj u h => by
       unfold kas_cmp
       rw [hit, hit]
       refine el_E (show ∃ x, ks[i]? = some x from ⟨_, List.getElem?_eq_getElem (by lia)⟩) ?_; intro x hx
       refine el_E (show ∃ y, ks[j]? = some y from ⟨_, List.getElem?_eq_getElem (by lia)⟩) ?_; intro y hy
       refine el_EA (Paired.get hpn hx) ?_; intro kx hkx hRx
       refine el_EA (Paired.get hpn hy) ?_; intro ky hky hRy
       rw [getElem?_getD hkx, getElem?_getD hky]
       have up : ∀ {k z}, RK.r (fun b => kS < b) s'.heap k z → RK.r All s''.heap k z := fun hR => RK.mono (fun _ _ => trivial) (RK.at hR u)
       exact hcmp i j x y kx ky C s'' hx hy (up hRx) (up hRy) (u'.trans u) h)
     (fun p st' s'' u b1 b2 b3 b4 => ⟨p, u, by rw [← hzs]; exact b1, by rw [← hzs]; exact b2, b3, b4⟩)
   refine wpAny_bind (wpAny_mono run ?_ fun _ _ e => e)
   rintro ⟨⟨⟩, st'⟩ s'' ⟨p, u, hp, hs, har, hf⟩
   have hk3 := u.keep _ _ hk'
   have ha3 := u.keep _ _ ha'
   have hout : (arrOf st').map (·.2) = List.toArray (p.toList.map fun i => vs.getD i .none) := by
     apply Array.toList_inj.mp
     rw [har, Array.map_map, Array.toList_map]
     exact List.map_congr_left fun i _ => by show (kas_item ((List.toArray kA).zip (List.toArray vs)) i).2 = _; rw [hit]
   have hsz : (List.toArray (p.toList.map fun i => vs.getD i Value.none)).size = vs.length := by rw [List.size_toArray, List.length_map, hp.length_eq, List.length_range]
   have t1 := Heap.SameBut.update s''.heap kS (Obj.mapSeq fun _ => (#[] : Array Value))
   have ha4 : (s''.heap.update kS (Obj.mapSeq fun _ => (#[] : Array Value))).get? a = some (seqObj "list" #[] e1) := (t1.2 _ (Ne.symm hka)).trans ha3
   have t2 := Heap.SameBut.update (s''.heap.update kS (Obj.mapSeq fun _ => (#[] : Array Value))) a (Obj.mapSeq fun _ => List.toArray (p.toList.map fun i => vs.getD i Value.none))
   refine el_E (show ∃ c2, ((s''.heap.update kS (Obj.mapSeq fun _ => (#[] : Array Value))).update a (Obj.mapSeq fun _ => List.toArray (p.toList.map fun i => vs.getD i Value.none))).get? a = some (seqObj "list" (List.toArray (p.toList.map fun i => vs.getD i Value.none)) c2) from ⟨_, get?_update_seq ha4 fun _ => List.toArray (p.toList.map fun i => vs.getD i Value.none)⟩) ?_; intro c2 hc2
   try dsimp only
   unfold ksk_tail
   try dsimp only
   rw [hout]
   refine wpAny_bind (listUpdate_at hk3 rfl ?_ (by rw [List.size_toArray, sizeLine_eq]; lia) (Nat.zero_le _))
   refine wpAny_bind (wpAny_letGo ?_)
   refine wpAny_bind (seqEpoch_at ha4 rfl ?_)
   refine wpAny_bind (listUpdate_at ha4 rfl ?_ (Nat.zero_le _) (by rw [if_neg (by simp), sizeLine_eq, hsz]; lia))
   rw [hf]
   simp only [bne_self_eq_false, Bool.false_eq_true, if_false]
   have u3 := u'.trans u
   refine wpAny_pure (fin p _ c2 ⟨⟨u3.st.gens, u3.st.drawn, u3.st.os⟩, keep0 ha (keep0 hkS0 u3.keep t1) t2, ?_⟩ hp hs hc2)
   rw [t2.1, t1.1]; exact u3.size
theorem sorted_key {l q : Addr} {vs : List Value} {ks : List κ} {RK : Rel κ} {T : Value} {r : Nat → Int} {Q : Value → Shared → Prop} (hl : s.heap.PlainList l (List.toArray vs)) (h2 : 2 ≤ vs.length) (h7 : vs.length ≤ 7) (hlen : ks.length = vs.length)
   (hkey : ∀ (i : Nat) v x s' (Q' : Value → Shared → Prop), vs[i]? = some v → ks[i]? = some x → Up s s' → (∀ kv s'', Up s' s'' → RK.r (fun b => s'.heap.objs.size ≤ b) s''.heap kv x → Q' kv s'') → wpAny (model prog w) A.in1.in1 (call (.ref q) [v]) Q' (fun _ _ => False) s')
   (hT : ∀ s' kv x, x ∈ ks → RK.r All s'.heap kv x → Up s s' → Looks (model prog w) s'.heap (typeOf kv) T) (hT1 : (T != Value.type "tuple") = true) (hT2 : (T == T) = true)
   (hcmp : ∀ (i j : Nat) x y kx ky C s', ks[i]? = some x → ks[j]? = some y → RK.r All s'.heap kx x → RK.r All s'.heap ky y → Up s s' → (∀ s'', Up s' s'' → C (decide (r i < r j)) s'') → wpAny (model prog w) A.in1.in1 (keyLt' oneType' kx ky) C (fun _ _ => False) s')
   (fin : ∀ D p s', Up s s' → s.heap.objs.size ≤ D → p.toList.Perm (List.range vs.length) → SortedP r p vs.length → s'.heap.PlainList D (List.toArray (p.toList.map fun i => vs.getD i .none)) → Q (.ref D) s') :
   wpAny (model prog w) A (call (.builtin "sorted") [.ref l] [(Str.ofString "key", .ref q)]) Q E s := by
 refine call_function_entry_kw kind_sorted plain_sorted entry_sorted (ksk_s1 _ _) ?_
 unfold Builtin.«sorted»
 refine wpAny_bind (m := checkCount "sorted" 1 1 _) (wpAny_pure ?_)
 refine wpAny_bind (collect_list hl.isList ?_ (by rw [sizeLine_eq]; lia))
 refine wpAny_bind (wpAny_newList ?_ (by rw [sizeLine_eq]; lia))
 have hsz : ((s.heap.push (seqObj "list" #[] 0)).update s.heap.objs.size (Obj.mapSeq (· ++ List.toArray vs))).objs.size = s.heap.objs.size + 1 := by
   rw [Heap.size_update, Heap.size_push]
 have hoL : (((s.heap.push (seqObj "list" #[] 0)).update s.heap.objs.size (Obj.mapSeq (· ++ List.toArray vs))).push (seqObj "list" (List.toArray vs) 0)).get? (s.heap.objs.size + 1) = some (seqObj "list" (List.toArray vs) 0) := by
   rw [← hsz]; exact Heap.get?_push_size _ rfl
 have keep : Keep s.heap (((s.heap.push (seqObj "list" #[] 0)).update s.heap.objs.size (Obj.mapSeq (· ++ List.toArray vs))).push (seqObj "list" (List.toArray vs) 0)) := fun b o q => by
   have hlt : b < s.heap.objs.size := Heap.lt_size q
   rw [Heap.get?_push_ne _ _ _ (by rw [hsz]; exact Nat.ne_of_lt (Nat.lt_succ_of_lt hlt)), Heap.get?_update_ne _ _ _ _ (Nat.ne_of_lt hlt), Heap.get?_push_ne _ _ _ (Nat.ne_of_lt hlt)]
   exact q
 show wpAny _ _ _ _ _ { s with heap := ((s.heap.push (seqObj "list" #[] 0)).update s.heap.objs.size (Obj.mapSeq (· ++ List.toArray vs))).push (seqObj "list" (List.toArray vs) 0) }
 rw [hsz]
 have u₁ : Up s { s with heap := ((s.heap.push (seqObj "list" #[] 0)).update s.heap.objs.size (Obj.mapSeq (· ++ List.toArray vs))).push (seqObj "list" (List.toArray vs) 0) } := ⟨⟨rfl, rfl, rfl⟩, keep, by
   show _ ≤ (((s.heap.push (seqObj "list" #[] 0)).update s.heap.objs.size (Obj.mapSeq (· ++ List.toArray vs))).push _).objs.size
   rw [Heap.size_push, hsz]; lia⟩
 refine wpAny_bind (wpAny_holding (wpAny_call_entry_kw slot_list_sort ⟨_, hoL, rfl⟩ entry_list_sort ?_ (ksk_l1 _ _)))
 show wpAny (model prog w) A.in1.in1 (Builtin.«list.sort» ⟨[.ref (s.heap.objs.size + 1)], [(Str.ofString "key", .ref q)]⟩) _ _ _
 rw [ksk_t1]
 refine sort_key u₁ (Nat.le_succ _) hoL h2 h7 hlen hkey hT hT1 hT2 hcmp fun p s' c u' hp hs ho => ⟨_, rfl, wpAny_pure ⟨_, rfl, ?_⟩⟩
 exact fin _ p s' u' (Nat.le_succ _) hp hs ⟨c, ho⟩
end
section
open AutoSeq1 (wpAny_loadPart')
noncomputable def ltL : List Int → List Int → Bool
 | [], [] => false
 | [], _ :: _ => true
 | _ :: _, [] => false
 | x :: xs, y :: ys => if x = y then ltL xs ys else decide (x < y)
theorem lt_loop (l b : Addr) (vs ws : List Value) (xs ys : List Int) (n n2 : Nat) (hx : Paired (fun v x => ∃ t, v = .int x t) vs xs) (hy : Paired (fun v x => ∃ t, v = .int x t) ws ys) (k : Nat) :
   ∀ i : Nat, xs.length - i = k → i ≤ xs.length → i ≤ ys.length → Meets (Builtin.«list.__eq__.loop» ⟨[.ref l, .ref b, rawInt i, rawInt 0], []⟩)
     (fun _ R s => s.heap.get? l = some { cls := .type "list", dict := none, data := .seq (List.toArray vs) n, slots := #[] } ∧ s.heap.get? b = some { cls := .type "list", dict := none, data := .seq (List.toArray ws) n2, slots := #[] } ∧
       R (.ok (.ret (.bool (ltL (xs.drop i) (ys.drop i))))) s) := by
 have hvl := Paired.length hx
 have hwl := Paired.length hy
 induction k with
 | zero =>
   intro i hk h1 h2 prog w A R s h
   obtain ⟨hp, g, d, tk, os⟩ := s; obtain ⟨hl, hb, h⟩ := h
   wp_walk using wpAny_loadPart' hl, wpAny_loadPart' hb
   have hi1 : (List.toArray vs)[((i : Nat) : Int).toNat]? = none := by simp; lia
   have hd : xs.drop i = [] := by simp; lia
   rw [hd] at h
   rw [hi1]
   wp_walk using wpAny_loadPart' hl, wpAny_loadPart' hb
   show R (.ok (.ret (.bool (decide ((List.toArray vs).size < (List.toArray ws).size))))) _
   have : decide ((List.toArray vs).size < (List.toArray ws).size) = ltL [] (ys.drop i) := by
     rw [List.size_toArray, List.size_toArray]
     by_cases q : i < ys.length
     · rw [List.drop_eq_getElem_cons q]
       show _ = true
       rw [decide_eq_true_eq]; lia
     · rw [List.drop_of_length_le (by lia)]
       show _ = false
       rw [decide_eq_false_iff_not]; lia
   rw [this]; exact h
 | succ k ih =>
   intro i hk h1 h2 prog w A R s h
   obtain ⟨hp, g, d, tk, os⟩ := s; obtain ⟨hl, hb, h⟩ := h
   wp_walk using wpAny_loadPart' hl, wpAny_loadPart' hb
   have hlt : i < xs.length := by lia
   refine el_EAE (Paired.get hx (List.getElem?_eq_getElem hlt)) ?_; intro v hv t zz0
   obtain rfl := zz0
   have hi1 : (List.toArray vs)[((i : Nat) : Int).toNat]? = some (.int xs[i] t) := by rw [Int.toNat_natCast, List.getElem?_toArray]; exact hv
   have hc : ((i : Int) + 1) = ((i + 1 : Nat) : Int) := by push_cast; rfl
   rw [List.drop_eq_getElem_cons hlt] at h
   by_cases hlt2 : i < ys.length
   · refine el_EAE (Paired.get hy (List.getElem?_eq_getElem hlt2)) ?_; intro v' hv' t' zz1
     obtain rfl := zz1
     have hi2 : (List.toArray ws)[((i : Nat) : Int).toNat]? = some (.int ys[i] t') := by rw [Int.toNat_natCast, List.getElem?_toArray]; exact hv'
     rw [List.drop_eq_getElem_cons hlt2] at h
     rw [hi1, hi2]
     refine wpAny_bind (wpAny_eqBool_int ?_)
     by_cases q : xs[i] = ys[i]
     · have hb' : (xs[i] == ys[i]) = true := by simpa using q
       rw [hb']
       wp_walk
       rw [hc]
       exact ⟨plainId_quiet PySem.MeetsSeq3.plain_eq_loop _, codeAny_builtin PySem.MeetsSeq3.entry_eq_loop (by
         rw [Around.under_plainId PySem.MeetsSeq3.plain_eq_loop _]
         refine ih (i + 1) (by lia) hlt hlt2 prog w A R _ ⟨hl, hb, ?_⟩
         have : ltL (xs[i] :: xs.drop (i + 1)) (ys[i] :: ys.drop (i + 1)) = ltL (xs.drop (i + 1)) (ys.drop (i + 1)) := if_pos q
         rw [← this]; exact h)⟩
     · have hb' : (xs[i] == ys[i]) = false := by simpa using q
       rw [hb']
       wp_walk using wpAny_loadPart' hl, wpAny_loadPart' hb
       rw [hi1, hi2]
       refine wpAny_bind (show wpAny _ _ (compareOp .Lt (.int xs[i] t) (.int ys[i] t')) _ _ _ from PyProof.Rows.lt_int ?_)
       have : ltL (xs[i] :: xs.drop (i + 1)) (ys[i] :: ys.drop (i + 1)) = decide (xs[i] < ys[i]) := if_neg q
       rw [this] at h
       wp_walk
       exact h
   · have hi2 : (List.toArray ws)[((i : Nat) : Int).toNat]? = none := by simp; lia
     have hd : ys.drop i = [] := by simp; lia
     rw [hd] at h
     rw [hi1, hi2]
     wp_walk using wpAny_loadPart' hl, wpAny_loadPart' hb
     show R (.ok (.ret (.bool (decide ((List.toArray vs).size < (List.toArray ws).size))))) _
     have : decide ((List.toArray vs).size < (List.toArray ws).size) = false := by
       rw [List.size_toArray, List.size_toArray, decide_eq_false_iff_not]; lia
     rw [this]; exact h
theorem list_lt (l b : Addr) (vs ws : List Value) (xs ys : List Int) (n n2 : Nat) (hx : Paired (fun v x => ∃ t, v = .int x t) vs xs) (hy : Paired (fun v x => ∃ t, v = .int x t) ws ys) :
   Meets (Builtin.«list.__lt__» ⟨[.ref l, .ref b], []⟩)
     (fun _ R s => s.heap.get? l = some { cls := .type "list", dict := none, data := .seq (List.toArray vs) n, slots := #[] } ∧ s.heap.get? b = some { cls := .type "list", dict := none, data := .seq (List.toArray ws) n2, slots := #[] } ∧
       R (.ok (.ret (.bool (ltL xs ys)))) s) := by
 intro prog w A R s h
 obtain ⟨hp, g, d, tk, os⟩ := s; obtain ⟨hl, hb, h⟩ := h
 have f3 := AutoSeq1.sub_list_list
 wp_walk using wpAny_loadPart' hl, wpAny_loadPart' hb
 exact ⟨plainId_quiet PySem.MeetsSeq3.plain_eq_loop _, codeAny_builtin PySem.MeetsSeq3.entry_eq_loop (by
   rw [Around.under_plainId PySem.MeetsSeq3.plain_eq_loop _]
   exact lt_loop l b vs ws xs ys n n2 hx hy _ 0 rfl (Nat.zero_le _) (Nat.zero_le _) prog w A R _ ⟨hl, hb, by simpa using h⟩)⟩
section
variable {prog : Program} {w : World} {A : Around} {E : Value → Shared → Prop} {s : Shared}
theorem keyLt_ints {kx ky : Value} {xs ys : List Int} {Q : Bool → Shared → Prop} (hu : A.units < cLine) (hx : (RL RI).r All s.heap kx xs) (hy : (RL RI).r All s.heap ky ys) (h : Q (ltL xs ys) s) : wpAny (model prog w) A (keyLt' oneType' kx ky) Q E s := by
 refine el_EEAAA hx ?_; try clear hx; intro l vs zz2 _ zz3 hpx
 obtain rfl := zz2
 refine el_E zz3 ?_; clear zz3; intro n hl
 refine el_EEAAA hy ?_; try clear hy; intro b ws zz4 _ zz5 hpy
 obtain rfl := zz4
 refine el_E zz5 ?_; clear zz5; intro n2 hb
 rw [keyLt'_oneType, oneLt'_eq]
 simp only [if_true]
 refine wpAny_bind (wpAny_cRoomFor hu ?_)
 refine wpAny_bind (wpAny_callSpecialIfBound?_slot (T := "list") (id := "list.__lt__") ⟨_, hl, rfl⟩ PySem.F.slot_list_lt ?_)
 refine call_meets PySem.F.slot_list_lt ⟨_, hl, rfl⟩ PySem.F.entry_list_lt (PySem.F.args_list_lt_2 _ _) (list_lt l b vs ws xs ys n n2 hpx hpy) ⟨hl, hb, ?_⟩
 exact wpAny_truthy_bool h
end
end
section
open PySem.SeqAt
structure EqR {α : Type} [DecidableEq α] (R : Rel α) (k : Nat) : Prop where
 det : ∀ {ok ok' h v x y}, R.r ok h v x → R.r ok' h v y → x = y
 eq : ∀ {A : Around} {s : Shared} {v w x y}, R.r All s.heap v x → R.r All s.heap w y → A.units + k < cLine → EqAt A s v w (decide (x = y))
theorem beq_dec {α : Type} [DecidableEq α] (x y : α) : (x == y) = decide (x = y) := rfl
theorem EqR.int : EqR RI 0 where
 det := fun ⟨_, e⟩ ⟨_, e'⟩ => by rw [e] at e'; cases e'; rfl
 eq := fun {A s v w x y} ⟨t, e⟩ ⟨u, e'⟩ _ => by
   subst e; subst e'
   exact (MeetsSeq.EqGives.int x y t u).at A s
theorem EqR.sign : EqR RC 0 where
 det := fun ⟨_, e⟩ ⟨_, e'⟩ => by
   rw [e] at e'
   have := sW_inj (Value.str.inj e').1
   simpa using this
 eq := fun {A s v w x y} ⟨t, e⟩ ⟨u, e'⟩ _ => by
   subst e; subst e'
   intro _ _ _ _ hq
   refine eqBool_str ?_
   rw [sW_beq]
   have : decide ([x] = [y]) = decide (x = y) := by simp
   rw [this]; exact hq
theorem EqR.word : EqR RW 0 where
 det := fun ⟨_, e⟩ ⟨_, e'⟩ => by
   rw [e] at e'
   exact sW_inj (Value.str.inj e').1
 eq := fun {A s v w x y} ⟨t, e⟩ ⟨u, e'⟩ _ => by
   subst e; subst e'
   intro _ _ _ _ hq
   refine eqBool_str ?_
   rw [sW_beq]; exact hq
theorem paired_det {α : Type} {F G : Value → α → Prop} (hd : ∀ v x y, F v x → G v y → x = y) {vs : List Value} {xs ys : List α} (p : Paired F vs xs) (q : Paired G vs ys) : xs = ys := by
 induction p generalizing ys with
 | nil => cases q; rfl
 | cons a _ ih =>
   cases q with
   | cons b r' => rw [hd _ _ _ a b, ih r']
theorem plain_det {h : Heap} {a : Addr} {vs ws : List Value} (x : h.PlainList a (List.toArray vs)) (y : h.PlainList a (List.toArray ws)) : vs = ws := by
 refine el_E x ?_; try clear x; intro n e
 refine el_E y ?_; try clear y; intro n' e'
 rw [e] at e'
 have := (Data.seq.inj (Obj.mk.inj (Option.some.inj e')).2.2.1).1
 simpa using this
theorem all_dec {α : Type} [DecidableEq α] (xs ys : List α) (d : α) (hl : xs.length = ys.length) : ((List.range xs.length).all fun j => decide (xs.getD j d = ys.getD j d)) = decide (xs = ys) := by
 by_cases h : xs = ys
 · subst h; simp
 · rw [decide_eq_false h, List.all_eq_false]
   refine Classical.byContradiction fun hc => h (List.ext_getElem hl fun i h1 h2 => Classical.byContradiction fun hne => hc ⟨i, List.mem_range.mpr h1, ?_⟩)
   rw [List.getD_eq_getElem?_getD, List.getD_eq_getElem?_getD, List.getElem?_eq_getElem h1, List.getElem?_eq_getElem h2]
   simpa using hne
section
variable {α : Type} [DecidableEq α] {R : Rel α} {k : Nat}
theorem EqR.rc (H : EqR R k) (d : α) {A : Around} {s : Shared} {v w : Value} {xs ys : List α} (hx : (RL R).r All s.heap v xs) (hy : (RL R).r All s.heap w ys) (hu : A.units + (k + 1) < cLine) : RcAt A s v w (decide (xs = ys)) := by
 refine el_EEAAA hx ?_; try clear hx; intro l vs zz0 _ hl hpx
 obtain rfl := zz0
 refine el_EEAAA hy ?_; try clear hy; intro b ws zz1 _ hb hpy
 obtain rfl := zz1
 have h1 := Paired.length hpx
 have h2 := Paired.length hpy
 by_cases hs : xs.length = ys.length
 · have := RcAt.lists (A := A) (s := s) (e := fun j => decide (xs.getD j d = ys.getD j d)) hl.isList hb.isList (by rw [List.size_toArray, List.size_toArray]; lia) (by lia) (fun j q1 q2 => by
     rw [List.size_toArray] at q1 q2
     refine el_EA (Paired.get' hpx (List.getElem?_eq_getElem q1)) ?_; intro x ex px
     refine el_EA (Paired.get' hpy (List.getElem?_eq_getElem q2)) ?_; intro y ey py
     rw [getElem?_getD ex, getElem?_getD ey]
     exact H.eq px py (by show A.units + 1 + k < cLine; lia))
   rw [List.size_toArray, h1, all_dec xs ys d hs] at this
   exact this
 · have : decide (xs = ys) = false := decide_eq_false fun e => hs (by rw [e])
   rw [this]
   exact RcAt.lists_lengths hl.isList hb.isList (by rw [List.size_toArray, List.size_toArray]; simp; lia) (by lia)
theorem EqR.list (H : EqR R k) (d : α) : EqR (RL R) (k + 1) where
 det := fun ⟨a, vs, e, _, hl, hp⟩ ⟨a', vs', e', _, hl', hp'⟩ => by
   rw [e] at e'; cases e'
   obtain rfl := plain_det hl hl'
   exact paired_det (F := R.r _ _) (G := R.r _ _) (fun v x y a b => H.det a b) hp hp'
 eq := fun {A s v w x y} hx hy hu => by
   have hr := H.rc d hx hy hu
   refine el_EEAAA hx ?_; try clear hx; intro l vs zz2 _ hl hpx
   obtain rfl := zz2
   refine el_EEAAA hy ?_; try clear hy; intro b ws zz3 _ hb hpy
   obtain rfl := zz3
   by_cases hlb : l = b
   · subst hlb
     obtain rfl := plain_det hl hb
     obtain rfl := paired_det (F := R.r All s.heap) (G := R.r All s.heap) (fun v x y a b => H.det a b) hpx hpy
     rw [decide_eq_true rfl]
     exact EqAt.same _
   · exact EqAt.of_refs hlb hr
end
section
variable {prog : Program} {w : World} {A : Around} {E : Value → Shared → Prop} {s : Shared} {α : Type} [DecidableEq α] {R : Rel α} {k : Nat} {Q : Value → Shared → Prop}
theorem eqL (H : EqR R k) (d : α) {v u : Value} {xs ys : List α} (hx : (RL R).r All s.heap v xs) (hy : (RL R).r All s.heap u ys) (hu : A.units + (k + 1) < cLine) (h : Q (.bool (decide (xs = ys))) s) : wpAny (model prog w) A (compareOp .Eq v u) Q E s :=
 H.rc d hx hy hu prog w E Q h
theorem neL (H : EqR R k) {v u : Value} {xs : List α} (hx : (RL R).r All s.heap v xs) (hy : (RL R).r All s.heap u xs) (hu : A.units + (k + 1) < cLine) (h : Q (.bool false) s) : wpAny (model prog w) A (compareOp .NotEq v u) Q E s := by
 refine el_EEAAA hx ?_; try clear hx; intro l vs zz4 _ hl hpx
 obtain rfl := zz4
 refine el_EEAAA hy ?_; try clear hy; intro b ws zz5 _ hb hpy
 obtain rfl := zz5
 have h1 := Paired.length hpx
 have h2 := Paired.length hpy
 have := RcNeAt.lists (A := A) (s := s) (e := fun _ => true) hl.isList hb.isList (by rw [List.size_toArray, List.size_toArray]; lia) (by lia) (fun j q1 q2 => by
     rw [List.size_toArray] at q1 q2
     refine el_EA (Paired.get' hpx (List.getElem?_eq_getElem q1)) ?_; intro x ex px
     refine el_EA (Paired.get' hpy (List.getElem?_eq_getElem q2)) ?_; intro y ey py
     rw [ex] at ey; cases ey
     have := H.eq px py (A := A.in1) (by show A.units + 1 + k < cLine; lia)
     rw [decide_eq_true rfl] at this
     exact this)
 refine this prog w E Q ?_
 have e : ((List.range (List.toArray vs).size).all fun _ => true) = true := List.all_eq_true.mpr fun _ _ => rfl
 rw [e]; exact h
end
end
theorem ltL_irrefl : ∀ x, ltL x x = false
 | [] => rfl
 | a :: r => by
   unfold ltL
   rw [if_pos rfl]; exact ltL_irrefl r
theorem ltL_neg : ∀ {z x y : List Int}, ltL z y = true → ltL z x = true ∨ ltL x y = true
 | [], [], [], h => by cases h
 | [], [], _ :: _, _ => .inr rfl
 | [], _ :: _, _, _ => .inl rfl
 | _ :: _, _, [], h => by cases h
 | _ :: _, [], _ :: _, _ => .inr rfl
 | a :: z, c :: x, b :: y, h => by
   unfold ltL at h ⊢
   by_cases h1 : a = b
   · subst h1
     rw [if_pos rfl] at h
     by_cases h2 : a = c
     · subst h2
       rw [if_pos rfl, if_pos rfl]
       exact ltL_neg h
     · rw [if_neg h2, if_neg (Ne.symm h2)]
       rw [decide_eq_true_eq, decide_eq_true_eq]; lia
   · rw [if_neg h1, decide_eq_true_eq] at h
     by_cases h2 : a = c
     · subst h2
       right
       rw [if_neg h1, decide_eq_true_eq]; exact h
     · rw [if_neg h2]
       by_cases h3 : c = b
       · subst h3
         left; rw [decide_eq_true_eq]; exact h
       · rw [if_neg h3, decide_eq_true_eq, decide_eq_true_eq]; lia
theorem ltL_trans : ∀ {x y z : List Int}, ltL x y = true → ltL y z = true → ltL x z = true
 | [], [], _, h, _ => by cases h
 | [], _ :: _, [], _, h => by cases h
 | [], _ :: _, _ :: _, _, _ => rfl
 | _ :: _, [], _, h, _ => by cases h
 | _ :: _, _ :: _, [], _, h => by cases h
 | a :: x, b :: y, c :: z, h1, h2 => by
   unfold ltL at h1 h2 ⊢
   by_cases q1 : a = b
   · subst q1
     rw [if_pos rfl] at h1
     by_cases q2 : a = c
     · subst q2
       rw [if_pos rfl] at h2 ⊢
       exact ltL_trans h1 h2
     · rw [if_neg q2] at h2 ⊢; exact h2
   · rw [if_neg q1, decide_eq_true_eq] at h1
     by_cases q2 : b = c
     · subst q2
       rw [if_neg q1, decide_eq_true_eq]; exact h1
     · rw [if_neg q2, decide_eq_true_eq] at h2
       rw [if_neg (by lia), decide_eq_true_eq]; lia
theorem ltL_anti : ∀ {x y : List Int}, ltL x y = false → ltL y x = false → x = y
 | [], [], _, _ => rfl
 | [], _ :: _, h, _ => by cases h
 | _ :: _, [], _, h => by cases h
 | a :: x, b :: y, h1, h2 => by
   unfold ltL at h1 h2
   by_cases h : a = b
   · subst h
     rw [if_pos rfl] at h1 h2
     rw [ltL_anti h1 h2]
   · rw [if_neg h, decide_eq_false_iff_not] at h1
     rw [if_neg (Ne.symm h), decide_eq_false_iff_not] at h2
     lia
noncomputable def rankL (L : List (List Int)) (x : List Int) : Int := ((L.countP fun z => ltL z x : Nat) : Int)
theorem countP_lt {α : Type} {p q : α → Bool} : ∀ {l : List α}, (∀ x ∈ l, p x = true → q x = true) → (∃ x ∈ l, q x = true ∧ p x = false) → l.countP p < l.countP q
 | [], _, ⟨_, h, _⟩ => by cases h
 | a :: l, hm, ⟨x, hx, hq, hp⟩ => by
   rw [List.countP_cons, List.countP_cons]
   have hle : l.countP p ≤ l.countP q := List.countP_mono_left fun y hy => hm y (.tail _ hy)
   rcases List.mem_cons.mp hx with rfl | hx
   · rw [hq, hp]; simp; lia
   · have := countP_lt (fun y hy => hm y (.tail _ hy)) ⟨x, hx, hq, hp⟩
     by_cases h : p a = true
     · rw [h, hm a (.head _) h]; simp; lia
     · rw [Bool.not_eq_true] at h
       rw [h]
       simp only [Bool.false_eq_true, if_false]
       lia
theorem rank_lt {L : List (List Int)} {x y : List Int} (hx : x ∈ L) : decide (rankL L x < rankL L y) = ltL x y := by
 unfold rankL
 by_cases h : ltL x y = true
 · rw [h, decide_eq_true_eq]
   have := countP_lt (l := L) (p := fun z => ltL z x) (q := fun z => ltL z y) (fun z _ hz => ltL_trans hz h) ⟨x, hx, h, ltL_irrefl x⟩
   lia
 · rw [Bool.not_eq_true] at h
   rw [h, decide_eq_false_iff_not]
   have : L.countP (fun z => ltL z y) ≤ L.countP (fun z => ltL z x) := List.countP_mono_left fun z _ hz => by
     rcases ltL_neg (x := x) hz with q | q
     · exact q
     · rw [h] at q; cases q
   lia
noncomputable def SortedL (l : List (List Int)) : Prop := l.Pairwise fun a b => ltL b a = false
theorem sorted_unique : ∀ {l l' : List (List Int)}, l.Perm l' → SortedL l → SortedL l' → l = l'
 | [], l', h, _, _ => (List.nil_perm.mp h).symm
 | a :: l, [], h, _, _ => by have := h.length_eq; simp at this
 | a :: l, b :: l', h, hs, hs' => by
   have hs1 := List.pairwise_cons.mp hs
   have hs2 := List.pairwise_cons.mp hs'
   have hab : a = b := by
     have ha : a ∈ b :: l' := h.mem_iff.mp (.head _)
     have hb : b ∈ a :: l := h.mem_iff.mpr (.head _)
     rcases List.mem_cons.mp ha with e | ha
     · exact e
     · rcases List.mem_cons.mp hb with e | hb
       · exact e.symm
       · exact ltL_anti (hs2.1 a ha) (hs1.1 b hb) |> fun e => e
   subst hab
   rw [sorted_unique (List.Perm.cons_inv h) hs1.2 hs2.2]
noncomputable def sortedB : List (List Int) → Bool
 | a :: b :: r => !ltL b a && sortedB (b :: r)
 | _ => true
theorem sortedB_iff : ∀ {l : List (List Int)}, sortedB l = true ↔ SortedL l
 | [] => ⟨fun _ => .nil, fun _ => rfl⟩
 | [a] => ⟨fun _ => List.pairwise_singleton _ _, fun _ => rfl⟩
 | a :: b :: r => by
   have ih := sortedB_iff (l := b :: r)
   unfold sortedB
   rw [Bool.and_eq_true, ih]
   constructor
   · intro zzM31_132_0
     refine el_A zzM31_132_0 ?_; clear zzM31_132_0; intro h1 h2
     refine List.pairwise_cons.mpr ⟨fun x hx => ?_, h2⟩
     rw [Bool.not_eq_true'] at h1
     rcases List.mem_cons.mp hx with rfl | hx
     · exact h1
     · have h3 := (List.pairwise_cons.mp h2).1 x hx
       cases q : ltL x a with
       | false => rfl
       | true =>
         rcases ltL_neg (x := b) q with q' | q'
         · rw [h3] at q'; cases q'
         · rw [h1] at q'; cases q'
   · intro h
     have := List.pairwise_cons.mp h
     exact ⟨by rw [this.1 b (.head _)]; rfl, this.2⟩
theorem out_sorted {ks : List (List Int)} {p : Array Nat} {n : Nat} (hn : ks.length = n) (hp : p.toList.Perm (List.range n)) (hs : SortedP (fun i => rankL ks (ks.getD i [])) p n) :
   SortedL (p.toList.map fun i => ks.getD i []) ∧ (p.toList.map fun i => ks.getD i []).Perm ks := by
 have hsz : p.size = n := by rw [← Array.length_toList, hp.length_eq, List.length_range]
 have hperm : (p.toList.map fun i => ks.getD i []).Perm ks := by
   refine (hp.map _).trans ?_
   have : (List.range n).map (fun i => ks.getD i []) = ks := by
     apply List.ext_getElem (by simp [hn])
     intro i h1 h2
     rw [List.getElem_map, List.getElem_range]
     exact getElem?_getD (List.getElem?_eq_getElem h2)
   rw [this]
 refine ⟨List.pairwise_iff_getElem.mpr fun i j hi hj hij => ?_, hperm⟩
 rw [List.length_map, Array.length_toList] at hi hj
 have := hs i j (Nat.le_of_lt hij) (by lia)
 have g : ∀ x (hx : x < p.size), p.getD x 0 = p.toList[x]'(by rw [Array.length_toList]; exact hx) := fun x hx => by simp [Array.getD, hx]
 rw [g i hi, g j hj] at this
 rw [List.getElem_map, List.getElem_map]
 have hm : ks.getD (p.toList[j]'(by rw [Array.length_toList]; exact hj)) [] ∈ ks := hperm.mem_iff.mp (List.mem_map.mpr ⟨_, List.getElem_mem _, rfl⟩)
 rw [← rank_lt hm, decide_eq_false_iff_not]
 exact Int.not_lt.mpr this
noncomputable def places (o : List Nat) (w : List Nat) : List Int := w.map fun c => ((o.idxOf c : Nat) : Int)
noncomputable def firstOf (orders words : List (List Nat)) : Option (List Nat) := orders.find? fun o => sortedB (words.map (places o))
theorem paired_pick {α : Type} {F : Value → α → Prop} {vs : List Value} {xs : List α} {d : α} (h : Paired F vs xs) : ∀ {ids : List Nat}, (∀ i ∈ ids, i < xs.length) → Paired F (ids.map fun i => vs.getD i .none) (ids.map fun i => xs.getD i d)
 | [], _ => .nil
 | i :: r, hi => by
   refine .cons (show F (vs.getD i .none) (xs.getD i d) from ?_) (paired_pick h fun j hj => hi j (.tail _ hj))
   refine el_EA (Paired.get h (List.getElem?_eq_getElem (hi i (.head _)))) ?_; intro v hv hf
   rw [getElem?_getD hv, getElem?_getD (List.getElem?_eq_getElem (hi i (.head _)))]
   exact hf
theorem looks_list {M : Model} {h : Heap} {a : Addr} {its : Array Value} (x : h.PlainList a its) : Looks M h (typeOf (.ref a)) (.type "list") := by
 refine el_E x ?_; try clear x; intro n e
 exact fun A Q E s k q => wpAny_typeOf (s := s) ⟨_, k _ _ e, rfl⟩ q
theorem sorted_iff {ks : List (List Int)} {p : Array Nat} {n : Nat} (hn : ks.length = n) (hp : p.toList.Perm (List.range n)) (hs : SortedP (fun i => rankL ks (ks.getD i [])) p n) : decide (ks = p.toList.map fun i => ks.getD i []) = sortedB ks := by
 refine el_A (out_sorted hn hp hs) ?_; intro h1 h2
 by_cases q : sortedB ks = true
 · rw [q, decide_eq_true_eq]
   exact sorted_unique h2.symm (sortedB_iff.mp q) h1
 · rw [Bool.not_eq_true] at q
   rw [q, decide_eq_false_iff_not]
   intro e
   rw [← e] at h1
   rw [sortedB_iff.mpr h1] at q; cases q
section
variable {prog : Program} {w : World} {A : Around} {s : Shared} {P : Adr} {mg mb : Str → Option Value}
noncomputable def FirstR (orders words : List (List Nat)) (v : Value) (h : Heap) : Prop :=
 match firstOf orders words with
 | some o => (RL RC).r All h v o
 | none => ∃ t, v = .str msgC t
theorem c_first {vo vw : Value} {orders words : List (List Nat)} (hroom : A.depth + 1 < recursionLimit) (hh : A.handled = none) (hu : A.units + 20 < cLine) (W : Wd P mg mb s.heap) (ho : (RL (RL RC)).r All s.heap vo orders) (hw : (RL RW).r All s.heap vw words)
   (hoz : ∀ o ∈ orders, o.length ≤ 100) (h2 : 2 ≤ words.length) (h7 : words.length ≤ 7) (hwz : ∀ l ∈ words, l.length ≤ 10) (hin : ∀ o ∈ orders, ∀ l ∈ words, ∀ c ∈ l, c ∈ o) :
   codeAny (model prog w) A (.call (.ref P.first) ⟨[vo, vw], []⟩) (Ret s (FirstR orders words)) s := by
 refine enterZ (binds := [(Str.ofString "orders", vo), (Str.ofString "words", vw)]) (by omega) W.dfirst W.lim (by intros; rfl) (by rfl) (by rfl) ?_ rfl rfl rfl
 intro L cd s₁ n₁ F u
 refine el_EAA (F.lower) ?_; intro n hle low F
 refine el_EEAAA ho ?_; try clear ho; intro ao vs zz0 _ hplo hpo
 obtain rfl := zz0
 have hvl := Paired.length hpo
 refine wpAny_execs_cons ?_
 exists wpAny_For ?_ (fun _ => (by trivial))
 exists n_loc F (by trivial) (by trivial) (by trivial) (by trivial) ?_
 exists for_list (deep_none hh _) (plUp hplo u) low F (fun i m _ => m (Str.ofString "words") = some vw ∧ firstOf orders words = (orders.drop i).find? fun o => sortedB (words.map (places o))) (fun _ _ _ _ h _ => h) (fun _ => ⟨(by trivial), rfl⟩) ?_ ?_
 · intro i v s₂ m₂ E' hv sm F₂ zzM32_48_8
   refine el_A zzM32_48_8 ?_; clear zzM32_48_8; intro e1 e2
   have hil : i < orders.length := by have := (List.getElem?_eq_some_iff.mp hv).1; omega
   have hR0 : (RL RC).r All s.heap v orders[i] := Paired.both hpo hv (List.getElem?_eq_getElem hil)
   have hom : orders[i] ∈ orders := List.getElem_mem hil
   have hzo := hoz _ hom
   have hino := hin _ hom
   rw [List.drop_eq_getElem_cons hil, List.find?_cons] at e2
   generalize orders[i] = o at hR0 hzo hino e2
   exists st_cell F₂ (by trivial) (by trivial) (by trivial) fun s₃ F₃ hs₃ sm₃ => ?_
   have k1 := upd_ne (x := Str.ofString "order") (u := some v) (by decide) e1
   refine wpAny_execs_cons ?_
   exists Assign_ListComp_M (β := List Int) (RR := RL (RL RI)) (zs := words.map (places o)) (by trivial) (by trivial) (by decide) (by trivial) (by decide) (by trivial) (fun _ => (by trivial)) (by trivial) (by trivial) (by trivial) F₃ ?_ ?_
   · exists n_loc F₃ (by trivial) (by trivial) (by trivial) k1 ?_
     exists ⟨Up.refl _, ?_⟩
     have hw₃ : (RL RW).r All s₃.heap vw words := (RL RW).up F₃.base.on hw
     exists comp_list (R := RW) (R' := RL RI) (f := places o) (deep_none hh _) hw₃ (by rw [sizeLine_eq]; omega) ?_ ?_
     · intro j wv wd C s₄ m₄ E'' hj hRw u₄ hC hn hx
       refine el_E hRw ?_; try clear hRw; intro tw zz1
       obtain rfl := zz1
       have hwm := List.mem_of_getElem? hj
       have hwzj := hwz wd hwm
       have F₄ := F₃.pass u₄
       have W₄ := W.keeps F₄.base
       have hcell := (F₄.cs (Str.ofString "order") _ (by trivial)).1
       exists wpAny_Call_NameR ?_
       exists n_gl W₄ (by trivial) (by trivial) (by trivial) (by trivial) W.gplaces ?_
       exists cw_def (by trivial) ?_
       exists sp_more (by trivial) ?_
       exists c_cell (by trivial) (by trivial) (by trivial) (by trivial) hcell ?_
       exists sp_more (by trivial) ?_
       exists c_loc hn (by trivial) (by trivial) (by trivial) hx ?_
       exists spliced_none ?_
       exists ⟨W₄.dplaces.fn, ?_⟩
       have hv₄ : (RL RC).r All s₄.heap v o := (RL RC).up F₄.base.on hR0
       exists call_ret (c_places (room0 hroom) (deep_none hh _) W₄ hv₄ (by omega) (by omega) (hino wd hwm)) fun v' s₅ u₅ hv' => ?_
       exact ⟨u₅, hv'⟩
     · intro v' s' us hr
       exact ⟨us, hr⟩
   · intro rv s₄ F₄ sm₄ hz₄ k₄ hrv
     have W₄ := W.keeps F₄.base
     refine el_EEAAA hrv ?_; try clear hrv; intro ar rs zz2 har hplr hpr
     obtain rfl := zz2
     have hrl := Paired.length hpr
     rw [List.length_map] at hrl
     have hkl : (words.map (places o)).length = rs.length := by rw [List.length_map]; exact hrl.symm
     have hprA : Paired ((RL RI).r All s₄.heap) rs (words.map (places o)) := Paired.imp (fun _ _ => (RL RI).mono fun _ _ => trivial) hpr
     refine wpAny_execs_cons ?_
     exists wpAny_If ?_
     exists wpAny_mono (Q := fun b s' => b = sortedB (words.map (places o)) ∧ Up s₄ s') ?_ (fun b s₅ h₅ => ?_) (fun _ _ e => e)
     · exists wpAny_isTrue_Compare1 ?_ (by trivial)
       exists n_loc F₄ (by trivial) (by trivial) (by trivial) (by trivial) ?_
       exists wpAny_Call_NameR ?_
       exists n_bi W₄ (by trivial) (by trivial) (by trivial) (by trivial) (by trivial) (by decide) (W.no "sorted" (by decide)) PyProof.Rows.boot_sorted ?_
       exists cw_bi (by trivial) ?_
       exists sp_more (by trivial) ?_
       exists n_loc F₄ (by trivial) (by trivial) (by trivial) (by trivial) ?_
       exists spliced_none ?_
       refine sorted_plain (T := .type "list") (r := fun i => rankL (words.map (places o)) ((words.map (places o)).getD i [])) hplr (by omega) (by omega) (fun s' u' v hv => ?_) rfl rfl (fun i j C s' hi hj u' hC => ?_) (fun D p s' u' hD hp hsP hl => ?_)
       · obtain ⟨i, hi, zz3⟩ := List.getElem_of_mem hv
         obtain rfl := zz3
         refine el_EA (Paired.get' hprA (List.getElem?_eq_getElem hi)) ?_; intro x _ hR
         refine el_EEAAA hR ?_; try clear hR; intro a its e _ hpl _
         rw [e]
         exact looks_list (plUp hpl u')
       · refine el_EA (Paired.get' hprA (List.getElem?_eq_getElem hi)) ?_; intro x hx hRx
         refine el_EA (Paired.get' hprA (List.getElem?_eq_getElem hj)) ?_; intro y hy hRy
         rw [getElem?_getD (List.getElem?_eq_getElem hi), getElem?_getD (List.getElem?_eq_getElem hj)]
         refine keyLt_ints (by show A.units + 3 + 1 + 1 < cLine; omega) ((RL RI).at hRx u') ((RL RI).at hRy u') ?_
         have hC' := hC s' (Up.refl s')
         rw [getElem?_getD hx, getElem?_getD hy, rank_lt (List.mem_of_getElem? hx)] at hC'
         exact hC'
       · have hpick := paired_pick (d := []) hprA (ids := p.toList) (fun i hi => by
           have := List.mem_range.mp (hp.mem_iff.mp hi); omega)
         have hout : (RL (RL RI)).r All s'.heap (.ref D) (p.toList.map fun i => (words.map (places o)).getD i []) := ⟨D, _, rfl, trivial, hl, Paired.imp (fun _ _ h => (RL RI).at h u') hpick⟩
         have hrows : (RL (RL RI)).r All s'.heap (.ref ar) (words.map (places o)) := ⟨ar, rs, rfl, trivial, plUp hplr u', Paired.imp (fun _ _ h => (RL RI).at h u') hprA⟩
         refine eqL (EqR.int.list 0) [] hrows hout (by show A.units + 3 + 2 < cLine; omega) ?_
         exists wpAny_truthy_bool ?_
         rw [sorted_iff hkl hp hsP]
         exact ⟨rfl, u'⟩
     · refine el_A h₅ ?_; try clear h₅; intro zz4 u₅
       obtain rfl := zz4
       have F₅ := F₄.pass u₅
       by_cases hs : sortedB (words.map (places o)) = true
       · rw [hs]
         simp only [if_true]
         rw [hs] at e2
         refine wpAny_execs_cons ?_
         exists wpAny_Return_some ?_
         exists n_cell F₅ (by trivial) (by trivial) (by trivial) (by trivial) (by trivial) ?_
         refine ret_ F₅ (u.st.trans (sm.trans (sm₃.trans (sm₄.trans u₅.st)))) ?_
         unfold FirstR
         rw [e2]
         exact (RL RC).up F₅.base.on hR0
       · rw [Bool.not_eq_true] at hs
         rw [hs]
         simp only [Bool.false_eq_true, if_false]
         rw [hs] at e2
         refine wpAny_execs_nil ?_
         refine wpAny_execs_nil ?_
         refine ⟨_, _, F₅, sm.trans (sm₃.trans (sm₄.trans u₅.st)), fun b hb o' e => ?_, ?_, e2⟩
         · have hbok : okF s.heap.objs.size n b := by
             rcases hb with rfl | rfl
             · exact .inr F.top
             · exact .inl (PlainList_lt hplo)
           have hbL : b ∉ [(envOfC (nmOf (stmtAt 35)) (scOf (stmtAt 35)) L P.first cd).locals] := fun q => by
             have q' := List.mem_singleton.mp q
             rcases hbok with h | h
             · rw [q'] at h; exact Nat.lt_irrefl _ (Nat.lt_of_lt_of_le h F.lo)
             · rw [q'] at h; exact Nat.lt_irrefl _ (Nat.lt_of_lt_of_le F.hi h)
           exact u₅.keep b o' (k₄ b o' hbL (F₃.keep b o' hbok e))
         · exact upd_ne (by decide) k1
 · intro s₂ m₂ E' sm F₂ zzM32_155_5
   refine el_A zzM32_155_5 ?_; clear zzM32_155_5; intro e1 e2
   refine wpAny_execs_nil ?_
   refine wpAny_execs_cons ?_
   exists wpAny_Return_some ?_
   exists wpAny_Constant_str ?_
   refine ret_ (F₂.pass (Up.toks _)) (u.st.trans (sm.trans (Up.toks _).st)) ?_
   rw [hvl, List.drop_length] at e2
   unfold FirstR
   rw [e2]
   exact ⟨_, rfl⟩
end
noncomputable def respB (o : List Nat) : List Nat → Bool
 | a :: b :: _ => decide (o.idxOf a < o.idxOf b)
 | _ => true
theorem cut_perm {l : List Nat} {k : Nat} (h : k < l.length) : (l.getD k 0 :: (l.take k ++ l.drop (k + 1))).Perm l := by
 rw [List.getD_eq_getElem?_getD, List.getElem?_eq_getElem h]
 have e : l = l.take k ++ l[k] :: l.drop (k + 1) := by rw [List.getElem_cons_drop, List.take_append_drop]
 refine List.perm_middle.symm.trans ?_
 show (l.take k ++ l[k] :: l.drop (k + 1)).Perm l
 rw [← e]
theorem idx_ne {x y : Nat} (l : List Nat) (h : x ≠ y) : (x :: l).idxOf y = l.idxOf y + 1 := by
 rw [List.idxOf_cons, show (x == y) = false by simpa using h]; rfl
theorem ordersN_perm : ∀ (n : Nat) (l o : List Nat), l.length = n → (o ∈ ordersN n l ↔ o.Perm l)
 | 0, l, o, hl => by
   have : l = [] := List.length_eq_zero_iff.mp hl
   subst this
   unfold ordersN
   rw [List.mem_singleton, List.perm_nil]
 | n + 1, l, o, hl => by
   unfold ordersN
   constructor
   · intro h
     refine el_EA (List.mem_flatMap.mp h) ?_; intro k hk h
     refine el_EA (List.mem_map.mp h) ?_; intro o' ho' zz0
     obtain rfl := zz0
     have hk' := List.mem_range.mp hk
     have := (ordersN_perm n _ o' (by simp; lia)).mp ho'
     exact (this.cons _).trans (cut_perm hk')
   · intro h
     cases o with
     | nil => have := h.length_eq; rw [hl] at this; simp at this
     | cons x o' =>
       have hx : x ∈ l := h.mem_iff.mp (.head _)
       obtain ⟨k, hk, zz1⟩ := List.getElem_of_mem hx
       obtain rfl := zz1
       refine List.mem_flatMap.mpr ⟨k, List.mem_range.mpr hk, List.mem_map.mpr ⟨o', ?_, ?_⟩⟩
       · refine (ordersN_perm n _ o' (by simp; lia)).mpr ?_
         have := h.trans (cut_perm hk).symm
         rw [List.getD_eq_getElem?_getD, List.getElem?_eq_getElem hk] at this
         exact List.Perm.cons_inv this
       · rw [List.getD_eq_getElem?_getD, List.getElem?_eq_getElem hk]; rfl
theorem idx_erase {a b h : Nat} (ha : a ≠ h) (hb : b ≠ h) : ∀ O : List Nat, O.idxOf a < O.idxOf b → (O.erase h).idxOf a < (O.erase h).idxOf b
 | [], e => by simp at e
 | x :: O, e => by
   by_cases hx : x = h
   · subst hx
     rw [List.erase_cons_head]
     rw [idx_ne _ (Ne.symm ha), idx_ne _ (Ne.symm hb)] at e
     lia
   · rw [List.erase_cons_tail (by simpa using hx)]
     by_cases hxa : x = a
     · subst hxa
       by_cases hxb : x = b
       · subst hxb; exact absurd e (Nat.lt_irrefl _)
       · rw [List.idxOf_cons_self, idx_ne _ hxb]; lia
     · by_cases hxb : x = b
       · subst hxb
         rw [List.idxOf_cons_self] at e
         lia
       · rw [idx_ne _ hxa, idx_ne _ hxb] at e ⊢
         have := idx_erase ha hb O (by lia)
         lia
theorem resp_cons {h : Nat} {o p : List Nat} (hp : p.length ≤ 2) (ho : p.tail.contains h = false) : respB (h :: o) p = respB o (dropHead h p) := by
 match p, hp with
 | [], _ => unfold dropHead; split <;> rfl
 | [b], _ => unfold dropHead; split <;> rfl
 | [a, b], _ =>
   have hb : h ≠ b := by intro e; subst e; simp at ho
   by_cases ha : a = h
   · subst ha
     show decide _ = respB o (if a = a then [b] else _)
     rw [if_pos rfl, List.idxOf_cons_self, idx_ne _ hb]
     simp [respB]
   · show decide _ = respB o (if a = h then [b] else [a, b])
     rw [if_neg ha, idx_ne _ (Ne.symm ha), idx_ne _ hb]
     simp [respB]
theorem resp_bad {h : Nat} {o p : List Nat} (hp : p.length ≤ 2) (ho : p.tail.contains h = true) : respB (h :: o) p = false := by
 match p, hp with
 | [], _ => simp at ho
 | [b], _ => simp at ho
 | [a, b], _ =>
   have hb : h = b := by simpa using ho
   subst hb
   simp [respB]
theorem findSome_range {α : Type} {g : Nat → Option α} {k0 : Nat} (hlt : ∀ j < k0, g j = none) {N : Nat} (hn : g k0 = none → ∀ j, k0 < j → j < N → g j = none) : ∀ {n : Nat}, n ≤ N → k0 < n → (List.range n).findSome? g = g k0
 | 0, _, h => absurd h (by lia)
 | n + 1, hN, h => by
   rw [List.range_succ, List.findSome?_append]
   by_cases hk : k0 < n
   · rw [findSome_range hlt hn (by lia) hk]
     cases hg : g k0 with
     | none =>
       have := hn hg n hk (by lia)
       simp [this]
     | some y => rfl
   · obtain rfl : k0 = n := by lia
     have : (List.range k0).findSome? g = none := List.findSome?_eq_none_iff.mpr fun j hj => hlt j (List.mem_range.mp hj)
     rw [this]
     simp
theorem okHead_app {R : List Nat} {ps : List (List Nat)} {h : Nat} : okHead ((R.map fun c => [c]) ++ ps) h = ps.all fun p => !(p.tail.contains h) := by
 unfold okHead
 rw [List.all_append, List.all_map]
 have : (R.all ((fun l => !(List.contains (List.tail l) h)) ∘ fun c => [c])) = true := by
   rw [List.all_eq_true]; intro x _; rfl
 rw [this, Bool.true_and]
theorem c3_find : ∀ (n : Nat) (R : List Nat) (ps : List (List Nat)) (f : Nat) (seqs : List (List Nat)) (res : List Nat), R.length = n → n < f → R.Nodup →
   (∀ p ∈ ps, p ≠ [] ∧ p.length ≤ 2 ∧ ∀ c ∈ p, c ∈ R) → seqs.filter (fun l => !l.isEmpty) = (R.map fun c => [c]) ++ ps →
   c3 f seqs res = ((ordersN n R).find? fun o => ps.all (respB o)).map (res ++ ·)
 | n, R, ps, 0, _, _, _, hf, _, _, _ => absurd hf (by lia)
 | 0, R, ps, f + 1, seqs, res, hR, _, _, hps, hs => by
   have e : R = [] := List.length_eq_zero_iff.mp hR
   subst e
   have ep : ps = [] := by
     cases ps with
     | nil => rfl
     | cons p r =>
       refine el_AA (hps p (.head _)) ?_; intro h1 _ h3
       cases p with
       | nil => exact absurd rfl h1
       | cons c _ => exact absurd (h3 c (.head _)) (by simp)
   subst ep
   unfold c3
   rw [hs]
   simp [ordersN]
 | n + 1, R, ps, f + 1, seqs, res, hR, hf, hnd, hps, hs => by
   unfold c3
   rw [hs]
   have hne : ((R.map fun c => [c]) ++ ps).isEmpty = false := by
     cases R with
     | nil => simp at hR
     | cons _ _ => rfl
   rw [hne]
   simp only [Bool.false_eq_true, if_false]
   have ord : ordersN (n + 1) R = (List.range R.length).flatMap fun k => (ordersN n (R.take k ++ R.drop (k + 1))).map fun o => R.getD k 0 :: o := by rw [ordersN]
   rw [ord, List.find?_flatMap]
   have hheads : (((R.map fun c => [c]) ++ ps).map headC) = R ++ ps.map headC := by
     rw [List.map_append, List.map_map]
     congr 1
     have : (headC ∘ fun c => [c]) = id := by funext c; rfl
     rw [this, List.map_id]
   have hpick : pickC ((R.map fun c => [c]) ++ ps) = R.find? (okHead ((R.map fun c => [c]) ++ ps)) := by
     unfold pickC
     rw [hheads, List.find?_append]
     cases hfd : R.find? (okHead ((R.map fun c => [c]) ++ ps)) with
     | some h => rfl
     | none =>
       have hall := List.find?_eq_none.mp hfd
       have : (ps.map headC).find? (okHead ((R.map fun c => [c]) ++ ps)) = none := by
         refine List.find?_eq_none.mpr fun x hx => ?_
         refine el_EA (List.mem_map.mp hx) ?_; intro p hp zz2
         obtain rfl := zz2
         refine el_AA (hps p hp) ?_; intro h1 _ h3
         refine hall _ (h3 _ ?_)
         cases p with
         | nil => exact absurd rfl h1
         | cons c _ => exact .head _
       rw [this]; rfl
   rw [hpick]
   have bad : ∀ k, k < R.length → okHead ((R.map fun c => [c]) ++ ps) (R.getD k 0) = false →
       ((ordersN n (R.take k ++ R.drop (k + 1))).map fun o => R.getD k 0 :: o).find? (fun o => ps.all (respB o)) = none := by
     intro k hk hb
     rw [okHead_app] at hb
     have : ∃ p ∈ ps, p.tail.contains (R.getD k 0) = true := by
       have h' := hb
       rw [List.all_eq_false] at h'
       refine el_EA h' ?_; try clear h'; intro p hp hq
       exact ⟨p, hp, by simpa using hq⟩
     refine el_EA this ?_; try clear this; intro p hp hq
     refine List.find?_eq_none.mpr fun o ho => ?_
     refine el_EA (List.mem_map.mp ho) ?_; intro o' _ zz3
     obtain rfl := zz3
     intro hall
     have := List.all_eq_true.mp hall p hp
     rw [resp_bad (hps p hp).2.1 hq] at this
     cases this
   cases hfd : R.find? (okHead ((R.map fun c => [c]) ++ ps)) with
   | none =>
     have hall := List.find?_eq_none.mp hfd
     have : (List.range R.length).findSome? (fun k => ((ordersN n (R.take k ++ R.drop (k + 1))).map fun o => R.getD k 0 :: o).find? (fun o => ps.all (respB o))) = none := by
       refine List.findSome?_eq_none_iff.mpr fun k hk => bad k (List.mem_range.mp hk) ?_
       have hk' := List.mem_range.mp hk
       have := hall (R.getD k 0) (by rw [List.getD_eq_getElem?_getD, List.getElem?_eq_getElem hk']; exact List.getElem_mem _)
       simpa using this
     rw [this]
     rfl
   | some h =>
     obtain ⟨hok, k0, hk0, e0, hlt⟩ := List.find?_eq_some_iff_getElem.mp hfd
     have e1 : R.getD k0 0 = h := by rw [List.getD_eq_getElem?_getD, List.getElem?_eq_getElem hk0]; exact e0
     have hok' := hok
     rw [okHead_app] at hok'
     have hfree : ∀ p ∈ ps, p.tail.contains h = false := fun p hp => by simpa using List.all_eq_true.mp hok' p hp
     have hperm := cut_perm hk0
     rw [e1] at hperm
     have hnd' : (h :: (R.take k0 ++ R.drop (k0 + 1))).Nodup := hperm.nodup_iff.mpr hnd
     have hlen : (R.take k0 ++ R.drop (k0 + 1)).length = n := by have := hperm.length_eq; simp only [List.length_cons] at this; lia
     have L := c3_find n (R.take k0 ++ R.drop (k0 + 1)) ((ps.map (dropHead h)).filter fun l => !l.isEmpty) f (((R.map fun c => [c]) ++ ps).map (dropHead h)) (res ++ [h]) hlen (by lia) (List.nodup_cons.mp hnd').2 ?_ ?_
     · show c3 f _ _ = _
       rw [L]
       have hg0 : ((ordersN n (R.take k0 ++ R.drop (k0 + 1))).map fun o => R.getD k0 0 :: o).find? (fun o => ps.all (respB o)) =
           ((ordersN n (R.take k0 ++ R.drop (k0 + 1))).find? fun o => ((ps.map (dropHead h)).filter fun l => !l.isEmpty).all (respB o)).map (h :: ·) := by
         rw [List.find?_map, e1]
         congr 2
         funext o
         show ps.all (respB (h :: o)) = _
         rw [List.all_filter, List.all_map]
         refine Bool.eq_iff_iff.mpr ?_
         rw [List.all_eq_true, List.all_eq_true]
         refine forall_congr' fun p => forall_congr' fun hp => ?_
         rw [resp_cons (hps p hp).2.1 (hfree p hp)]
         show _ ↔ (!(!(dropHead h p).isEmpty) || respB o (dropHead h p)) = true
         cases dropHead h p with
         | nil => simp [respB]
         | cons _ _ => simp
       rw [findSome_range (k0 := k0) ?_ ?_ (Nat.le_refl _) hk0, hg0]
       · rw [Option.map_map]
         congr 1
         funext o
         show (res ++ [h]) ++ o = res ++ (h :: o)
         rw [List.append_assoc]; rfl
       · intro j hj
         refine bad j (by lia) ?_
         have := hlt j hj
         rw [List.getD_eq_getElem?_getD, List.getElem?_eq_getElem (by lia)]
         simpa using this
       · intro hnone j hj hjR
         refine List.find?_eq_none.mpr fun O hO hall => ?_
         have hOp : O.Perm R := by
           refine el_EA (List.mem_map.mp hO) ?_; intro o' ho' zz4
           obtain rfl := zz4
           exact (((ordersN_perm n _ o' (by have := (cut_perm hjR).length_eq; simp only [List.length_cons] at this; lia)).mp ho').cons _).trans (cut_perm hjR)
         have h1 : (O.erase h).Perm (R.take k0 ++ R.drop (k0 + 1)) := by
           have a := hOp.erase h
           have b := hperm.symm.erase h
           rw [List.erase_cons_head] at b
           exact a.trans b
         have h2 := (ordersN_perm n _ _ hlen).mpr h1
         have := List.find?_eq_none.mp hnone (h :: O.erase h) (List.mem_map.mpr ⟨_, h2, by rw [e1]⟩)
         refine this (List.all_eq_true.mpr fun p hp => ?_)
         have hr := List.all_eq_true.mp hall p hp
         match p, (hps p hp).2.1, hfree p hp, hr with
         | [], _, _, _ => rfl
         | [b], _, _, _ => rfl
         | [a, b], _, hq, hr =>
           have hb : h ≠ b := by intro e; subst e; simp at hq
           have hr' : O.idxOf a < O.idxOf b := by simpa [respB] using hr
           by_cases ha : a = h
           · subst ha
             simp only [respB, decide_eq_true_eq, List.idxOf_cons_self, idx_ne _ hb]
             lia
           · simp only [respB, decide_eq_true_eq]
             rw [idx_ne _ (Ne.symm ha), idx_ne _ hb]
             have := idx_erase ha (Ne.symm hb) O hr'
             lia
     · intro p hp
       refine el_A (List.mem_filter.mp hp) ?_; intro hp1 hp2
       refine el_EA (List.mem_map.mp hp1) ?_; intro p0 hp0 zz5
       obtain rfl := zz5
       refine el_AA (hps p0 hp0) ?_; intro h1 h2 h3
       have hsub : ∀ c ∈ dropHead h p0, c ∈ p0 ∧ c ≠ h := by
         match p0, h2, h1, hfree p0 hp0 with
         | [], _, h1, _ => exact absurd rfl h1
         | [b], _, _, _ =>
           intro c hc
           unfold dropHead at hc
           split at hc
           · simp at hc
           · rename_i hne
             have : c = b := by simpa using hc
             subst this
             exact ⟨.head _, hne⟩
         | [a, b], _, _, hq =>
           have hb : h ≠ b := by intro e; subst e; simp at hq
           intro c hc
           unfold dropHead at hc
           split at hc
           · have : c = b := by simpa using hc
             subst this
             exact ⟨.tail _ (.head _), Ne.symm hb⟩
           · rename_i hne
             rcases List.mem_cons.mp hc with rfl | hc
             · exact ⟨.head _, hne⟩
             · have : c = b := by simpa using hc
               subst this
               exact ⟨.tail _ (.head _), Ne.symm hb⟩
       refine ⟨by intro e; rw [e] at hp2; simp at hp2, ?_, fun c hc => ?_⟩
       · unfold dropHead
         split
         · rw [List.length_tail]; lia
         · exact h2
       · refine el_A (hsub c hc) ?_; intro hc1 hc2
         rcases List.mem_cons.mp (hperm.mem_iff.mpr (h3 c hc1)) with e | e
         · exact absurd e hc2
         · exact e
     · rw [List.map_append, List.filter_append]
       congr 1
       have hsplit : R = R.take k0 ++ h :: R.drop (k0 + 1) := by
         rw [← e0, List.getElem_cons_drop, List.take_append_drop]
       have hnotin : h ∉ R.take k0 ++ R.drop (k0 + 1) := (List.nodup_cons.mp hnd').1
       have keepAll : ∀ l : List Nat, h ∉ l → ((l.map fun c => [c]).map (dropHead h)).filter (fun l => !l.isEmpty) = l.map fun c => [c] := by
         intro l
         induction l with
         | nil => intro _; rfl
         | cons x l ih =>
           intro hx
           have hxh : x ≠ h := fun e => hx (e ▸ .head _)
           have e : dropHead h [x] = [x] := by unfold dropHead; rw [if_neg]; exact hxh
           rw [List.map_cons, List.map_cons, e, List.filter_cons_of_pos (by rfl), ih fun q => hx (.tail _ q)]
       conv => lhs; rw [hsplit]
       rw [List.map_append, List.map_append, List.filter_append, List.map_cons, List.map_cons]
       have e : dropHead h [h] = [] := by unfold dropHead; rw [if_pos]; rfl; rfl
       rw [e, List.filter_cons_of_neg (by simp), keepAll _ fun q => hnotin (List.mem_append.mpr (.inl q)), keepAll _ fun q => hnotin (List.mem_append.mpr (.inr q)), List.map_append]
noncomputable def pairsL : List (List Nat) → List (List Nat)
 | a :: b :: r => pairOf a b :: pairsL (b :: r)
 | _ => []
theorem pairsOf_eq : ∀ words : List (List Nat), pairsOf words = pairsL words
 | [] => rfl
 | [a] => rfl
 | a :: b :: r => by
   have ih := pairsOf_eq (b :: r)
   unfold pairsL
   rw [← ih]
   unfold pairsOf
   show (List.range (r.length + 1)).map _ = _
   rw [List.range_succ_eq_map, List.map_cons, List.map_map]
   rfl
theorem idx_inj {o : List Nat} {a b : Nat} (ha : a ∈ o) (h : o.idxOf a = o.idxOf b) : a = b := by
 have h1 : o.idxOf a < o.length := List.idxOf_lt_length_iff.mpr ha
 have h2 : o.idxOf b < o.length := by lia
 have e1 := List.getElem_idxOf h1
 have e2 := List.getElem_idxOf h2
 rw [← e1, ← e2]
 congr 1
theorem resp_pair {o : List Nat} : ∀ a b : List Nat, (∀ c ∈ a, c ∈ o) → (∀ c ∈ b, c ∈ o) → respB o (pairOf a b) = !ltL (places o b) (places o a)
 | [], [], _, _ => rfl
 | [], _ :: _, _, _ => rfl
 | a :: r, [], _, _ => by simp [pairOf, respB, places, ltL]
 | a :: r, b :: r', ha, hb => by
   unfold pairOf places
   rw [List.map_cons, List.map_cons]
   unfold ltL
   by_cases h : a = b
   · subst h
     rw [if_pos rfl, if_pos rfl]
     exact resp_pair r r' (fun c hc => ha c (.tail _ hc)) fun c hc => hb c (.tail _ hc)
   · have hne : o.idxOf a ≠ o.idxOf b := fun e => h (idx_inj (ha a (.head _)) e)
     rw [if_neg h, if_neg (by lia)]
     show decide _ = _
     by_cases hlt : o.idxOf a < o.idxOf b
     · rw [decide_eq_true hlt, decide_eq_false (by lia)]; rfl
     · rw [decide_eq_false hlt, decide_eq_true (by lia)]; rfl
theorem resp_words {o : List Nat} : ∀ words : List (List Nat), (∀ w ∈ words, ∀ c ∈ w, c ∈ o) → (pairsL words).all (respB o) = sortedB (words.map (places o))
 | [], _ => rfl
 | [a], _ => rfl
 | a :: b :: r, h => by
   have ih := resp_words (o := o) (b :: r) fun w hw => h w (.tail _ hw)
   unfold pairsL
   rw [List.all_cons, ih, resp_pair a b (h a (.head _)) (h b (.tail _ (.head _)))]
   rfl
theorem pairOf_in {R : List Nat} : ∀ a b : List Nat, (∀ c ∈ a, c ∈ R) → (∀ c ∈ b, c ∈ R) → ∀ c ∈ pairOf a b, c ∈ R
 | [], _, _, _, c, h => by simp [pairOf] at h
 | a :: r, [], ha, _, c, h => by
   have : c = a := by simpa [pairOf] using h
   subst this; exact ha c (.head _)
 | a :: r, b :: r', ha, hb, c, h => by
   unfold pairOf at h
   split at h
   · exact pairOf_in r r' (fun c hc => ha c (.tail _ hc)) (fun c hc => hb c (.tail _ hc)) c h
   · rcases List.mem_cons.mp h with rfl | h
     · exact ha c (.head _)
     · have : c = b := by simpa using h
       subst this; exact hb c (.head _)
theorem pairsL_in {R : List Nat} : ∀ words : List (List Nat), (∀ w ∈ words, ∀ c ∈ w, c ∈ R) → ∀ p ∈ pairsL words, p.length ≤ 2 ∧ ∀ c ∈ p, c ∈ R
 | [], _, p, h => by cases h
 | [a], _, p, h => by cases h
 | a :: b :: r, hw, p, h => by
   unfold pairsL at h
   rcases List.mem_cons.mp h with rfl | h
   · exact ⟨pairOf_len a b, pairOf_in a b (hw a (.head _)) (hw b (.tail _ (.head _)))⟩
   · exact pairsL_in (b :: r) (fun w h' => hw w (.tail _ h')) p h
theorem find_congr {α : Type} {p q : α → Bool} : ∀ {l : List α}, (∀ x ∈ l, p x = q x) → l.find? p = l.find? q
 | [], _ => rfl
 | x :: l, h => by
   rw [List.find?_cons, List.find?_cons, h x (.head _), find_congr fun y hy => h y (.tail _ hy)]
theorem merge_first {letters : List Nat} {words : List (List Nat)} (h4 : letters.length = 4) (hnd : letters.Nodup) (hin : ∀ w ∈ words, ∀ c ∈ w, c ∈ letters) : mergeOf letters words = firstOf (ordersN 4 letters) words := by
 unfold mergeOf seqsOf firstOf
 rw [pairsOf_eq]
 have hsing : (letters.map fun c => [c]).filter (fun l => !l.isEmpty) = letters.map fun c => [c] := List.filter_eq_self.mpr fun x hx => by
   obtain ⟨c, _, rfl⟩ := List.mem_map.mp hx; rfl
 rw [c3_find 4 letters ((pairsL words).filter fun l => !l.isEmpty) 100 _ [] h4 (by decide) hnd (fun p hp => ?_) (by rw [List.filter_append, hsing])]
 · have : (([] : List Nat) ++ ·) = id := by funext x; rfl
   rw [this, Option.map_id, id]
   refine find_congr fun o ho => ?_
   have hp := (ordersN_perm 4 letters o h4).mp ho
   rw [← resp_words words fun w hw c hc => hp.mem_iff.mpr (hin w hw c hc), List.all_filter]
   refine Bool.eq_iff_iff.mpr ?_
   rw [List.all_eq_true, List.all_eq_true]
   refine forall_congr' fun p => forall_congr' fun _ => ?_
   cases p with
   | nil => simp [respB]
   | cons _ _ => simp
 · refine el_A (List.mem_filter.mp hp) ?_; intro h1 h2
   refine el_A (pairsL_in words hin p h1) ?_; intro h3 h4
   exact ⟨by intro e; subst e; simp at h2, h3, h4⟩
noncomputable def DefAtD (h : Heap) (a : Addr) (st : Stmt) : Prop :=
 ∃ o pm cd doc T ot dv n, h.get? a = some o ∧ o.data = .func { docDef (nmOf st) (psOf st) (bdOf st) (scOf st) pm cd doc with defaults := .ref T } ∧ h.CodeRec cd (nmOf st) ∧ h.get? T = some ot ∧ ot.data = .seq #[dv] n
theorem DefAtD.keeps {h h' : Heap} {a : Addr} {st : Stmt} (x : DefAtD h a st) (k : Keep h h') : DefAtD h' a st :=
 el_EEEEEEEEAAAA x fun o pm cd doc T ot dv n e hd hc e2 h2 => ⟨o, pm, cd, doc, T, ot, dv, n, k _ _ e, hd, hc.keeps k, k _ _ e2, h2⟩
theorem DefAtD.fn {h : Heap} {a : Addr} {st : Stmt} (x : DefAtD h a st) : PySem.W.FnAt a h := by
 refine el_EEEEEEEEAA x ?_; try clear x; intro zz0 pm cd doc T ot dv n e hd _
 obtain ⟨oc, od, dt, sl⟩ := zz0
 cases hd; exact ⟨oc, od, _, sl, e⟩
theorem enterD {prog : Program} {w : World} {A : Around} {s : Shared} {st : Stmt} {a : Addr} {args : List Value} {binds : List (Str × Value)} {R : Result → Shared → Prop} (hroom : A.depth < recursionLimit) (ho : DefAtD s.heap a st) (hlim : s.heap.NoLimit)
   (hbind : ∀ (s : Shared) pm cd doc T ot dv n, s.heap.get? T = some ot → ot.data = .seq #[dv] n → BindsTo s { docDef (nmOf st) (psOf st) (bdOf st) (scOf st) pm cd doc with defaults := .ref T } ⟨args, []⟩ binds)
   (hcell : ∀ x ∈ (scOf st).names, x.2 ≠ .cell) (hloc : ∀ x ∈ binds, (scOf st).names.lookup x.1 = some .local)
   (h : ∀ L cd s₁ n, L = s.heap.objs.size → Fz s.heap (envOfC (nmOf st) (scOf st) L a cd) n s₁.heap s₁.heap (fun x => binds.reverse.lookup x) → Up s s₁ →
     wpAny (model prog w) (A.deeper (envOfC (nmOf st) (scOf st) L a cd)) (execs (bdOf st) (envOfC (nmOf st) (scOf st) L a cd))
       (fun f s' => R (.ok (.ret (match f with | .ret v => v | _ => .none))) s') (fun _ _ => False) s₁)
   (henv : ∀ L pm cd doc T, callEnv { docDef (nmOf st) (psOf st) (bdOf st) (scOf st) pm cd doc with defaults := .ref T } L a = envOfC (nmOf st) (scOf st) L a cd)
   (hnc : ∀ L cd x, (envOfC (nmOf st) (scOf st) L a cd).cells.lookup x = none)
   (hco : (scOf st).isCoroutine = false) (hgen : (scOf st).isGenerator = false) (hk : (scOf st).kind = .function) :
   codeAny (model prog w) A (.call (.ref a) ⟨args, []⟩) R s := by
 refine el_EEEEEEEEAAAA ho ?_; try clear ho; intro o pm cd doc T ot dv n e hd hc e2 h2
 refine codeAny_call_def (fd := { docDef (nmOf st) (psOf st) (bdOf st) (scOf st) pm cd doc with defaults := .ref T }) hroom e hd hlim hc rfl (hbind s pm cd doc T ot dv n e2 h2) hcell hloc (fun h₀ hns hkp => ?_) hco hgen hk
 rw [henv]
 have hlt := hns.lt
 refine wpAny_mono (h s.heap.objs.size cd { s with heap := h₀, toks := s.toks + binds.length } h₀.objs.size rfl ⟨hkp, Nat.le_refl _, hlt, Nat.le_refl _, ⟨_, hns, fun _ _ => rfl⟩, fun x c hcx => ?_, fun x y c e1 e2 => ?_, KeepOn.refl _ _⟩ ⟨.of _ _, hkp, Nat.le_of_lt hlt⟩) (fun _ _ x => x) fun _ _ x => x.elim
 · rw [hnc] at hcx; cases hcx
 · rw [hnc] at e1; cases e1
section
variable {prog : Program} {w : World} {A : Around} {E : Value → Shared → Prop} {s : Shared}
theorem iter_range {r : Addr} {a b : Int} {t u v : Tok} {Q : Value → Shared → Prop} (hr : IsRange s.heap r a b 1 t u v) (hsm : Builtin.Range.small a b 1 = true)
   (h : ∀ I s', Up s s' → s.heap.objs.size ≤ I → IsRangeIter s'.heap I a (Builtin.Range.rangeSize a b 1) 1 → Q (.ref I) s') : wpAny (model prog w) A (call (.builtin "iter") [.ref r]) Q E s := by
 refine Calls.call_function_entry (by decide +kernel) (by decide +kernel) kdk_entry_iter (kdk_args_iter _) ?_
 unfold Builtin.«iter»
 refine wpAny_bind (m := someArgs "iter" 1 2 _) (wpAny_of_eq (a := [Value.ref r]) (by first | rfl | kernel_rfl!) ?_)
 dsimp only
 refine wpAny_bind (wpAny_pyIter_range hr hsm ?_)
 exact wpAny_pure ⟨_, rfl, h _ _ (Up.push _ _) (Nat.le_refl _) (Heap.get?_push_size _ rfl)⟩
end
section
variable {prog : Program} {w : World} {A : Around} {s : Shared} {P : Adr} {mg mb : Str → Option Value}
theorem c_reduce {f r I₀ : Addr} {k : Nat} {acc : Nat → Int} {t t₁ t₂ t₃ : Tok} (hroom : A.depth < recursionLimit) (hh : A.handled = none) (W : Wd P mg mb s.heap) (hD : DefAtD s.heap P.reduce (stmtAt 4)) (hmiss : mg (Str.ofString "_initial_missing") = some (.ref I₀))
   (hr : IsRange s.heap r 0 (k : Int) 1 t₁ t₂ t₃) (hk : k ≤ 1000) (hfn : PySem.W.FnAt f s.heap) (h0 : acc 0 = 0)
   (hf : ∀ (i : Nat) t1 t2 s' env, i < k → Up s s' → codeAny (model prog w) (A.deeper env) (.call (.ref f) ⟨[.int (acc i) t1, .int (i : Int) t2], []⟩) (RetD RI (acc (i + 1)) s') s') :
   codeAny (model prog w) A (.call (.ref P.reduce) ⟨[.ref f, .ref r, .int 0 t], []⟩) (RetD RI (acc k) s) s := by
 refine enterD (binds := [(Str.ofString "function", .ref f), (Str.ofString "sequence", .ref r), (Str.ofString "initial", .int 0 t)]) hroom hD W.lim (fun s pm cd doc T ot dv n e h => BindsTo.of_defaults rfl e h rfl rfl) (by decide) (fun x hx => by rcases List.mem_cons.mp hx with rfl | hx; exact (by trivial); rcases List.mem_cons.mp hx with rfl | hx; exact (by trivial); rw [List.mem_singleton.mp hx]; exact (by trivial)) ?_ (fun _ _ _ _ _ => (by trivial)) (fun _ _ _ => (by trivial)) rfl rfl rfl
 intro L cd s₁ n₁ hL F u
 refine el_EAA (F.lower) ?_; intro n hle low F
 have W₁ := W.up u
 have hm0 : ∀ x, (fun x => List.lookup x (List.reverse [(Str.ofString "function", Value.ref f), (Str.ofString "sequence", .ref r), (Str.ofString "initial", .int 0 t)])) x = List.lookup x [(Str.ofString "initial", .int 0 t), (Str.ofString "sequence", .ref r), (Str.ofString "function", .ref f)] := fun _ => rfl
 refine wpAny_execs_cons ?_
 exists wpAny_Assign_Name ?_ (by trivial)
 exists wpAny_Call_NameR ?_
 exists n_bi W₁ (by trivial) (by trivial) (by trivial) (by trivial) (by trivial) (by decide) (W.no "iter" (by decide)) PyProof.Rows.boot_iter ?_
 exists cw_bi (by trivial) ?_
 exists sp_more (by trivial) ?_
 exists n_loc F (by trivial) (by trivial) (by trivial) (by trivial) ?_
 exists spliced_none ?_
 have hr₁ : IsRange s₁.heap r 0 (k : Int) 1 t₁ t₂ t₃ := u.keep _ _ hr
 exists iter_range hr₁ (small_nat (by omega)) fun I s₂ u₂ hI hit => ?_
 rw [rangeSize_nat] at hit
 exists st_loc (F.pass u₂).here (by trivial) (by trivial) (by trivial) fun s₃ F₃ hs₃ sm₃ => ?_
 have hnI : n ≤ I := Nat.le_trans F.top hI
 have W₃ := W.keeps F₃.base
 refine wpAny_execs_cons ?_
 exists If_f ?_
 exists wpAny_isTrue_Compare1 ?_ (by trivial)
 exists n_loc F₃ (by trivial) (by trivial) (by trivial) (by trivial) ?_
 exists n_gl W₃ (by trivial) (by trivial) (by trivial) (by trivial) hmiss ?_
 exists wpAny_is_other rfl (fun q => nomatch q) ?_
 exists wpAny_truthy_bool ?_
 exists ⟨rfl, ?_⟩
 refine wpAny_execs_cons ?_
 exists wpAny_Assign_Name ?_ (by trivial)
 exists n_loc F₃ (by trivial) (by trivial) (by trivial) (by trivial) ?_
 exists st_loc F₃ (by trivial) (by trivial) (by trivial) fun s₄ F₄ hs₄ sm₄ => ?_
 refine wpAny_execs_nil ?_
 have hit₄ : IsRangeIter s₄.heap I 0 (k : Int) 1 := F₄.keep I _ (.inr hnI) hit
 refine wpAny_execs_cons ?_
 exists wpAny_For ?_ (fun _ => (by trivial))
 exists n_loc F₄ (by trivial) (by trivial) (by trivial) (by trivial) ?_
 have WR := LCg.range_walks (prog := prog) (w := w) (I := I) (deep_none hh (envOfC (nmOf (stmtAt 4)) (scOf (stmtAt 4)) L P.reduce cd)) 0 k
 have hst : IsRangeIter s₄.heap I (0 + ((0 : Nat) : Int) * 1) ((k : Int) - ((0 : Nat) : Int)) 1 := by simpa using hit₄
 refine WR.self 0 _ _ _ hst ?_
 have sms : Sm s s₄ := u.st.trans (u₂.st.trans (sm₃.trans sm₄))
 refine forZ WR (fun b hb => by rw [List.mem_singleton.mp hb]; exact hnI) low hst F₄ (fun i m _ => m (Str.ofString "function") = some (.ref f) ∧ ∃ t', m (Str.ofString "value") = some (.int (acc i) t')) ⟨(by trivial), t, by rw [h0]; with_unfolding_all rfl⟩ (fun _ _ _ _ h _ => h) ?_ ?_
 · intro i v s₅ m₅ E' hi zzM34_65_6 sm₅ F₅ zzM34_65_9
   refine el_E zzM34_65_6 ?_; clear zzM34_65_6; intro t' zz0
   obtain rfl := zz0
   refine el_AE zzM34_65_9 ?_; clear zzM34_65_9; intro e1 t5 e2
   exists st_loc F₅ (by trivial) (by trivial) (by trivial) fun s₆ F₆ hs₆ sm₆ => ?_
   have k1 := upd_ne (x := Str.ofString "element") (u := some (.int (0 + (i : Int)) t')) (by decide) e1
   have k2 := upd_ne (x := Str.ofString "element") (u := some (.int (0 + (i : Int)) t')) (by decide) e2
   have up₆ : Up s s₆ := ⟨sms.trans (sm₅.trans sm₆), F₆.base, Nat.le_trans F₆.lo (Nat.le_trans (Nat.le_of_lt F₆.hi) F₆.top)⟩
   have hfn₆ : PySem.W.FnAt f s₆.heap := by
     refine el_EEEE hfn ?_; try clear hfn; intro oc od dt sl e
     exact ⟨oc, od, dt, sl, F₆.base _ _ e⟩
   have e0 : (0 + (i : Int)) = ((i : Nat) : Int) := by omega
   refine wpAny_execs_cons ?_
   exists wpAny_Assign_Name ?_ (by trivial)
   exists wpAny_Call_NameR ?_
   exists n_loc F₆ (by trivial) (by trivial) (by trivial) k1 ?_
   exists cw_def (by trivial) ?_
   exists sp_more (by trivial) ?_
   exists n_loc F₆ (by trivial) (by trivial) (by trivial) k2 ?_
   exists sp_more (by trivial) ?_
   exists n_loc F₆ (by trivial) (by trivial) (by trivial) upd_eq ?_
   exists spliced_none ?_
   exists ⟨hfn₆, ?_⟩
   rw [e0]
   exists call_ret (hf i t5 t' s₆ _ hi up₆) fun v s₇ u₇ hv => ?_
   refine el_E hv ?_; try clear hv; intro t7 zz1
   obtain rfl := zz1
   have F₇ := F₆.pass u₇
   exists st_loc F₇ (by trivial) (by trivial) (by trivial) fun s₈ F₈ hs₈ sm₈ => ?_
   refine wpAny_execs_nil ?_
   exact ⟨_, _, F₈, sm₅.trans (sm₆.trans (u₇.st.trans sm₈)), fun b hb o e => F₈.keep b o (.inr (by rw [List.mem_singleton.mp hb]; exact hnI)) e, upd_ne (by decide) k1, t7, upd_eq⟩
 · intro s₅ m₅ E' sm₅ F₅ zzM34_92_5
   refine el_AE zzM34_92_5 ?_; clear zzM34_92_5; intro e1 t5 e2
   refine wpAny_execs_nil ?_
   refine wpAny_execs_cons ?_
   exists wpAny_Return_some ?_
   exists n_loc F₅ (by trivial) (by trivial) (by trivial) e2 ?_
   exact retD_ (R := RI) F₅ (sms.trans sm₅) ⟨_, rfl⟩
end
noncomputable abbrev lamP : PySem.Expr → Arguments
 | .Lambda p _ _ _ => p
 | _ => default
noncomputable abbrev lamB : PySem.Expr → PySem.Expr
 | .Lambda _ b _ _ => b
 | e => e
noncomputable abbrev lamS : PySem.Expr → Scope
 | .Lambda _ _ s _ => s
 | _ => default
noncomputable abbrev lamQ : PySem.Expr → Pos
 | .Lambda _ _ _ p => p
 | _ => default
noncomputable abbrev retOf : Stmt → PySem.Expr
 | .Return (some e) _ => e
 | _ => .Constant .none 0 default
noncomputable abbrev orOf (k : Nat) : PySem.Expr → PySem.Expr
 | .BoolOp _ es _ => es.getD k (.Constant .none 0 default)
 | e => e
noncomputable abbrev argOf (k : Nat) : PySem.Expr → PySem.Expr
 | .Call _ es _ _ => es.getD k (.Constant .none 0 default)
 | e => e
noncomputable abbrev cmpE : PySem.Expr := retOf ((bdOf (stmtAt 36)).getD 0 (.Pass default))
noncomputable abbrev stepE : PySem.Expr := argOf 0 (orOf 0 (lamB cmpE))
noncomputable def LamAt (h : Heap) (f : Addr) (e : PySem.Expr) (cl : List (Str × Addr)) : Prop :=
 ∃ name qual pm cv ctv, h.get? f = some { cls := .type "function", data := .func (kla_fn name qual (lamP e) (lamB e) (lamS e) cl pm cv ctv) } ∧ h.CodeRec cv qual
theorem LamAt.keeps {h h' : Heap} {f : Addr} {e : PySem.Expr} {cl : List (Str × Addr)} (x : LamAt h f e cl) (k : Keep h h') : LamAt h' f e cl :=
 el_EEEEEA x fun name qual pm cv ctv e1 e2 => ⟨name, qual, pm, cv, ctv, k _ _ e1, e2.keeps k⟩
theorem LamAt.fn {h : Heap} {f : Addr} {e : PySem.Expr} {cl : List (Str × Addr)} (x : LamAt h f e cl) : PySem.W.FnAt f h := by
 obtain ⟨name, qual, pm, cv, ctv, e1, _⟩ := x; exact ⟨_, _, _, _, e1⟩
section
variable {M : Model} {A : Around} {E : Value → Shared → Prop} {s : Shared} {env : Env} {m : Str → Option Value} {x : Str} {pos : Pos} {v : Value} {c : Addr} {Q : Value → Shared → Prop}
theorem e_loc (hn : s.heap.Ns env.locals m) (hk : env.scope.kind = .function) (hl : env.kindOf x = some .local) (hd : (x == ("__debug__" : Str)) = false) (hv : m x = some v) (h : Q v s) : wpAny M A (eval (.Name x pos) env) Q E s := wpAny_Name (wpAny_loadName_local hk hl hn hv h) hd
theorem e_cell (hcl : env.cells.lookup x = some c) (hk : env.scope.kind = .function) (hl : env.kindOf x = some .cell) (hd : (x == ("__debug__" : Str)) = false) (hc : s.heap.IsCell c (some v)) (h : Q v s) : wpAny M A (eval (.Name x pos) env) Q E s :=
 wpAny_Name (wpAny_loadName_cell hk hl hcl hc h) hd
theorem e_free (hcl : env.cells.lookup x = some c) (hk : env.scope.kind = .function) (hl : env.kindOf x = some .free) (hd : (x == ("__debug__" : Str)) = false) (hn : (x == ("__classdict__" : Str)) = false) (hc : s.heap.IsCell c (some v)) (h : Q v s) : wpAny M A (eval (.Name x pos) env) Q E s :=
 wpAny_Name (wpAny_loadName_free hk hl hcl hc h hn) hd
end
noncomputable def stepN (alpha a b : List Nat) (told : Int) (k : Nat) : Int := if told ≠ 0 then told else cmp3 ((alpha.idxOf (a.getD k 0) : Nat) : Int) ((alpha.idxOf (b.getD k 0) : Nat) : Int)
section
variable {prog : Program} {w : World} {A : Around} {s : Shared} {P : Adr} {mg mb : Str → Option Value}
theorem c_step {f ca c1 c2 : Addr} {cl : List (Str × Addr)} {va : Value} {alpha a b : List Nat} {told : Int} {k : Nat} {t1 t2 t3 t4 : Tok} (hroom : A.depth + 1 < recursionLimit) (W : Wd P mg mb s.heap)
   (hf : LamAt s.heap f stepE cl) (hc0 : cl.lookup (Str.ofString "alphabet") = some ca) (hc1 : cl.lookup (Str.ofString "one") = some c1) (hc2 : cl.lookup (Str.ofString "two") = some c2)
   (h0 : s.heap.IsCell ca (some va)) (h1 : s.heap.IsCell c1 (some (.str (sW a) t1))) (h2 : s.heap.IsCell c2 (some (.str (sW b) t2)))
   (ha : (RL RC).r All s.heap va alpha) (hal : alpha.length ≤ 1000) (hka : k < a.length) (hkb : k < b.length) (hk : k < 1000) (hma : ∀ c ∈ a, c ∈ alpha) (hmb : ∀ c ∈ b, c ∈ alpha) :
   codeAny (model prog w) A (.call (.ref f) ⟨[.int told t3, .int (k : Int) t4], []⟩) (RetD RI (stepN alpha a b told k) s) s := by
 refine el_EEEEEA hf ?_; try clear hf; intro name qual pm cv ctv e1 e2
 refine kla_callFunE (fd := kla_fn name qual (lamP stepE) (lamB stepE) (lamS stepE) cl pm cv ctv) (by omega) e1 rfl rfl rfl rfl e2 ?_
 have hbind : bindArgs (kla_fn name qual (lamP stepE) (lamB stepE) (lamS stepE) cl pm cv ctv) ⟨[.int told t3, .int (k : Int) t4], []⟩ = pure [(Str.ofString "told", .int told t3), (Str.ofString "k", .int (k : Int) t4)] := rfl
 rw [hbind]
 refine wpAny_pure (wpAny_newFunctionEnv (show ∀ x ∈ (lamS stepE).names, x.2 ≠ .cell by decide) (fun x hx => by rcases List.mem_cons.mp hx with rfl | hx; exact (by trivial); rw [List.mem_singleton.mp hx]; exact (by trivial)) (fun h₁ hns hsb => ⟨W.lim.fresh _ hsb, ?_⟩) rfl)
 have hk₁ : Keep s.heap h₁ := fun b o e => hsb.extBut b o (Nat.ne_of_lt (Heap.lt_size e)) (Heap.get?_push_of_some _ e)
 have u₁ : Up s { s with heap := h₁, toks := s.toks + 2 } := ⟨⟨rfl, rfl, rfl⟩, hk₁, Nat.le_of_lt hns.lt⟩
 refine kla_codeExpr ?_
 show wpAny (model prog w) _ (eval (lamB stepE) (newEnv (lamS stepE) s.heap.objs.size mainGlobals cl (qual ++ ".<locals>.") (some f) cv none builtinsNs)) _ _ { s with heap := h₁, toks := s.toks + 2 }
 have hns' : ({ s with heap := h₁, toks := s.toks + 2 } : Shared).heap.Ns s.heap.objs.size (fun x => List.lookup x (List.reverse [(Str.ofString "told", Value.int told t3), (Str.ofString "k", .int (k : Int) t4)])) := hns
 generalize ({ s with heap := h₁, toks := s.toks + 2 } : Shared) = s₁ at u₁ hns'
 generalize henv : newEnv (lamS stepE) s.heap.objs.size mainGlobals cl (qual ++ ".<locals>.") (some f) cv none builtinsNs = env
 have hcells : env.cells = cl := by rw [← henv]; rfl
 have hloc : env.locals = s.heap.objs.size := by rw [← henv]; rfl
 rw [← hloc] at hns'
 have W₁ := W.up u₁
 refine BoolOp_or ?_
 exists e_loc hns' (by rw [← henv]; with_unfolding_all rfl) (by rw [← henv]; with_unfolding_all rfl) (by trivial) (by trivial) ?_
 exists PyProof.Rows.truthy_int ?_
 by_cases ht : told = 0
 · subst ht
   rw [if_neg (by simp)]
   have hw : stepN alpha a b 0 k = cmp3 ((alpha.idxOf (a.getD k 0) : Nat) : Int) ((alpha.idxOf (b.getD k 0) : Nat) : Int) := rfl
   rw [hw]
   refine el_EEAAA ((RL RC).at ha u₁) ?_; intro ax vs zz0 _ hpl hp
   obtain rfl := zz0
   exists BoolOp_one ?_
   exists wpAny_Call_NameR ?_
   exists n_gl W₁ (by rw [← henv]; with_unfolding_all rfl) (by rw [← henv]; with_unfolding_all rfl) (by rw [← henv]; with_unfolding_all rfl) (by trivial) W.gcmp3 ?_
   exists cw_def (by trivial) ?_
   exists sp_more (by trivial) ?_
   exists meth1 ab_name (by trivial) (by trivial) PySem.F.plainAttrs_list PySem.F.slot_list_index PySem.F.type_list_index ?_
   exists e_free (by rw [hcells]; exact hc0) (by rw [← henv]; with_unfolding_all rfl) (by rw [← henv]; with_unfolding_all rfl) (by trivial) (by trivial) (cellUp h0 u₁) ?_
   exists ⟨hpl.isList.typeIs, pl_none hpl, ?_⟩
   exists Subscript_ ?_
   exists e_free (by rw [hcells]; exact hc1) (by rw [← henv]; with_unfolding_all rfl) (by rw [← henv]; with_unfolding_all rfl) (by trivial) (by trivial) (cellUp h1 u₁) ?_
   exists e_loc hns' (by rw [← henv]; with_unfolding_all rfl) (by rw [← henv]; with_unfolding_all rfl) (by trivial) (by trivial) ?_
   have ea : a[((k : Int)).toNat]? = some (a.getD k 0) := by rw [Int.toNat_natCast, List.getD_eq_getElem?_getD, List.getElem?_eq_getElem hka]; rfl
   have eb : b[((k : Int)).toNat]? = some (b.getD k 0) := by rw [Int.toNat_natCast, List.getD_eq_getElem?_getD, List.getElem?_eq_getElem hkb]; rfl
   have ma : a.getD k 0 ∈ alpha := hma _ (List.mem_of_getElem? ea)
   have mb' : b.getD k 0 ∈ alpha := hmb _ (List.mem_of_getElem? eb)
   exists itemW (by trivial) (fun _ => (by trivial)) (by omega) (by omega) ea fun t5 s₂ u₂ => ?_
   have u₁₂ := u₁.trans u₂
   exists idx_strs (plUp hpl u₂) (rc_any hp) hal ma fun t6 s₃ u₃ => ?_
   have u₂₃ := u₂.trans u₃
   exists sp_more (by trivial) ?_
   exists meth1 ab_name (by trivial) (by trivial) PySem.F.plainAttrs_list PySem.F.slot_list_index PySem.F.type_list_index ?_
   exists e_free (by rw [hcells]; exact hc0) (by rw [← henv]; with_unfolding_all rfl) (by rw [← henv]; with_unfolding_all rfl) (by trivial) (by trivial) (cellUp h0 (u₁.trans u₂₃)) ?_
   exists ⟨(plUp hpl u₂₃).isList.typeIs, pl_none (plUp hpl u₂₃), ?_⟩
   exists Subscript_ ?_
   exists e_free (by rw [hcells]; exact hc2) (by rw [← henv]; with_unfolding_all rfl) (by rw [← henv]; with_unfolding_all rfl) (by trivial) (by trivial) (cellUp h2 (u₁.trans u₂₃)) ?_
   exists e_loc (nsUp hns' u₂₃) (by rw [← henv]; with_unfolding_all rfl) (by rw [← henv]; with_unfolding_all rfl) (by trivial) (by trivial) ?_
   exists itemW (by trivial) (fun _ => (by trivial)) (by omega) (by omega) eb fun t7 s₄ u₄ => ?_
   exists idx_strs (plUp hpl (u₂₃.trans u₄)) (rc_any hp) hal mb' fun t8 s₅ u₅ => ?_
   exists spliced_none ?_
   have u₅' : Up s s₅ := u₁.trans (u₂₃.trans (u₄.trans u₅))
   have W₅ := W.up u₅'
   exists ⟨W₅.dcmp3.fn, ?_⟩
   exists call_ret (c_cmp3 (room0 hroom) W₅) fun v s₆ u₆ hv => ?_
   exact ⟨v, rfl, u₅'.trans u₆, hv⟩
 · rw [if_pos (by simpa using ht)]
   have hw : stepN alpha a b told k = told := if_pos ht
   rw [hw]
   exact ⟨_, rfl, u₁, _, rfl⟩
end
noncomputable def LamC (h : Heap) (f : Addr) (e : PySem.Expr) (cl : List (Str × Addr)) (cv : Value) (qual : Str) : Prop :=
 (∃ name pm ctv, h.get? f = some { cls := .type "function", data := .func (kla_fn name qual (lamP e) (lamB e) (lamS e) cl pm cv ctv) }) ∧ h.CodeRec cv qual
theorem LamC.at {h : Heap} {f : Addr} {e : PySem.Expr} {cl : List (Str × Addr)} {cv : Value} {qual : Str} (x : LamC h f e cl cv qual) : LamAt h f e cl := by
 refine el_A x ?_; try clear x; intro zz0 e2
 refine el_EEE zz0 ?_; clear zz0; intro name pm ctv e1
 exact ⟨name, qual, pm, cv, ctv, e1, e2⟩
noncomputable def CodeTab (h : Heap) (c P : Addr) (ps : Array Value) : Prop := h.IsCode c P ps ∧ h.TableAt c P ps
theorem CodeTab.keeps {h h' : Heap} {c P : Addr} {ps : Array Value} (x : CodeTab h c P ps) (k : Keep h h') : CodeTab h' c P ps := ⟨x.1.keeps k, x.2.keeps k⟩
section
variable {M : Model} {A : Around} {E : Value → Shared → Prop} {s : Shared} {name qual : Str} {params : Arguments} {body : PySem.Expr} {scope : Scope} {env : Env} {c P : Addr} {ps : Array Value} {pos : Pos} {mg : Str → Option Value} {clos : List (Str × Addr)} {Q : Value → Shared → Prop}
theorem make_new (hdef : defaultsOf params env = ([], [])) (hcl : closureFor scope env = pure clos) (hne : clos.isEmpty = false) (hge0 : env.globals = mainGlobals) (hg : s.heap.Ns mainGlobals mg) (hcode : env.code = .ref c) (T : CodeTab s.heap c P ps)
   (hnf : codeAmong pos ps.toList = none) (hgP : mainGlobals ≠ P) (hb : s.heap.BuiltinsAt mg P)
   (h : ∀ f c' P' s', Sm s s' → KeepNot [P] s.heap s'.heap → s.heap.objs.size ≤ s'.heap.objs.size → s.heap.objs.size ≤ f → LamC s'.heap f (.Lambda params body scope pos) clos (.ref c') (env.qual ++ "<lambda>") →
     CodeTab s'.heap c P (ps ++ #[rawInt pos.line, rawInt pos.col, .ref c']) → s.heap.objs.size ≤ P' → CodeTab s'.heap c' P' #[] → Q (.ref f) s') :
   wpAny M A (eval (.Lambda params body scope pos) env) Q E s := by
 refine kla_eval hdef ?_
 rw [makeFunction_eq]
 simp only [List.zip_nil_right, List.filterMap_nil, List.isEmpty_nil, if_true, pure_bind]
 refine el_EEAAAAAAA hb ?_; try clear hb; intro bm ob hbm hne0 _ hneP hbo hcls hdict hdata
 unfold makeTail
 rw [hcl, hge0]
 refine wpAny_bind (wpAny_pure ?_)
 rw [hne]
 simp only [Bool.false_eq_true, if_false]
 refine wpAny_bind (wpAny_newTextTuple ?_)
 have kp : ∀ o : Obj, Keep s.heap (s.heap.push o) := fun o => Keep.push _ o
 refine wpAny_bind (wpAny_functionCodeX hcode (T.1.keeps (kp _)) (T.2.keeps (kp _)) hnf fun c' h' tk hx hge hlt hcode' hrec htb hnew => ?_)
 have hg' := (hg.push _).extBut hx hgP
 refine wpAny_bind (wpAny_builtinsFor hg' hbm hne0 (hx _ _ hneP (kp _ _ _ hbo)) hcls hdict hdata ?_)
 refine wpAny_bind (wpAny_nsGet hg' ?_)
 refine wpAny_bind (wpAny_pure (wpAny_newObj_type ?_ (by size_fits)))
 refine el_EAA hnew ?_; try clear hnew; intro P' hP' hC1 hC2
 have hsz : s.heap.objs.size ≤ h'.objs.size := Nat.le_trans (Nat.le_trans (by rw [Heap.size_push]; lia) hge) (Nat.le_of_lt hlt)
 have k2 := Keep.push h' { cls := .type "function", data := .func (kla_fn "<lambda>" (env.qual ++ "<lambda>") params body scope clos ((mg "__name__").getD .none) (.ref c') (.ref s.heap.objs.size)) }
 refine h h'.objs.size c' P' _ ⟨rfl, rfl, rfl⟩ (fun b o hb e => k2 b o (hx b o (fun q => hb (by simp [q])) (kp _ b o e))) ?_ hsz ⟨⟨_, _, _, Heap.get?_push_size _ rfl⟩, hrec.keeps k2⟩ ⟨hcode'.keeps k2, htb.keeps k2⟩ (Nat.le_trans (by rw [Heap.size_push]; lia) hP') ⟨hC1.keeps k2, hC2.keeps k2⟩
 show _ ≤ (h'.push _).objs.size
 rw [Heap.size_push]; lia
theorem make_old {cv : Value} (hdef : defaultsOf params env = ([], [])) (hcl : closureFor scope env = pure clos) (hne : clos.isEmpty = false) (hge0 : env.globals = mainGlobals) (hg : s.heap.Ns mainGlobals mg) (hcode : env.code = .ref c) (T : CodeTab s.heap c P ps)
   (hf : codeAmong pos ps.toList = some cv) (hr : s.heap.CodeRec cv (env.qual ++ "<lambda>")) (hb : s.heap.BuiltinsAt mg P)
   (h : ∀ f s', Up s s' → s.heap.objs.size ≤ f → LamC s'.heap f (.Lambda params body scope pos) clos cv (env.qual ++ "<lambda>") → Q (.ref f) s') :
   wpAny M A (eval (.Lambda params body scope pos) env) Q E s := by
 refine kla_eval hdef ?_
 rw [makeFunction_eq]
 simp only [List.zip_nil_right, List.filterMap_nil, List.isEmpty_nil, if_true, pure_bind]
 refine el_EEAAAAAAA hb ?_; try clear hb; intro bm ob hbm hne0 _ hneP hbo hcls hdict hdata
 unfold makeTail
 rw [hcl, hge0]
 refine wpAny_bind (wpAny_pure ?_)
 rw [hne]
 simp only [Bool.false_eq_true, if_false]
 refine wpAny_bind (wpAny_newTextTuple ?_)
 have kp : ∀ o : Obj, Keep s.heap (s.heap.push o) := fun o => Keep.push _ o
 refine wpAny_bind (wpAny_functionCode_hit hcode (T.1.keeps (kp _)) hf ?_)
 refine wpAny_bind (wpAny_builtinsFor (hg.push _) hbm hne0 (kp _ _ _ hbo) hcls hdict hdata ?_)
 refine wpAny_bind (wpAny_nsGet (hg.push _) ?_)
 refine wpAny_bind (wpAny_pure (wpAny_newObj_type ?_ (by size_fits)))
 refine h _ _ ⟨⟨rfl, rfl, rfl⟩, (kp _).trans (Keep.push _ _), ?_⟩ ?_ ⟨⟨_, _, _, Heap.get?_push_size _ rfl⟩, hr.keeps ((kp _).trans (Keep.push _ _))⟩
 · show _ ≤ ((s.heap.push _).push _).objs.size
   rw [Heap.size_push, Heap.size_push]; lia
 · show _ ≤ (s.heap.push _).objs.size
   rw [Heap.size_push]; lia
end
section
variable {M : Model} {A : Around} {E : Value → Shared → Prop} {s : Shared}
theorem enter_cmp {cl : List (Str × Addr)} {v1 v2 cv : Value} {qual : Str} {f : Addr} {Q : Env → Shared → Prop}
   (h : ∀ s', Up s s' → s'.heap.Ns s.heap.objs.size (fun _ => none) → s'.heap.IsCell (s.heap.objs.size + 1) (some v1) → s'.heap.IsCell (s.heap.objs.size + 2) (some v2) →
     Q (newEnv (lamS cmpE) s.heap.objs.size mainGlobals ((Str.ofString "two", s.heap.objs.size + 2) :: (Str.ofString "one", s.heap.objs.size + 1) :: cl) qual (some f) cv none builtinsNs) s') :
   wpAny M A (newFunctionEnv (lamS cmpE) mainGlobals cl [(Str.ofString "one", v1), (Str.ofString "two", v2)] qual (some f) cv none builtinsNs) Q E s := by
 simp only [newFunctionEnv, Option.isSome_none, Bool.false_eq_true, if_false]
 refine wpAny_bind (wpAny_alloc ?_)
 refine wpAny_bind (wpAny_layCells _ (fun name kind cells => by cases kind == NameKind.cell <;> rfl) _ _ _ _ ?_)
 have hsz : ({ s with heap := s.heap.push { cls := .type "frame", data := .dict #[] } } : Shared).heap.objs.size = s.heap.objs.size + 1 := Heap.size_push ..
 rw [hsz]
 have hcf : cellsFrom (s.heap.objs.size + 1) (lamS cmpE).names cl = (Str.ofString "two", s.heap.objs.size + 2) :: (Str.ofString "one", s.heap.objs.size + 1) :: cl := by with_unfolding_all rfl
 rw [hcf]
 show wpAny M A (forIn _ _ _ >>= _) Q E { s with heap := pushCells (s.heap.push { cls := .type "frame", data := .dict #[] }) (lamS cmpE).names }
 have hpc : pushCells (s.heap.push { cls := .type "frame", data := .dict #[] }) (lamS cmpE).names = ((s.heap.push { cls := .type "frame", data := .dict #[] }).push { cls := .type "cell", data := .cell none }).push { cls := .type "cell", data := .cell none } := by with_unfolding_all rfl
 rw [hpc]
 have hns0 : (((s.heap.push { cls := .type "frame", data := .dict #[] }).push { cls := .type "cell", data := .cell none }).push { cls := .type "cell", data := .cell none }).Ns s.heap.objs.size (fun _ => none) := ((Heap.Ns.new s.heap (.type "frame")).push _).push _
 have hc1 : (((s.heap.push { cls := .type "frame", data := .dict #[] }).push { cls := .type "cell", data := .cell none }).push { cls := .type "cell", data := .cell none }).IsCell (s.heap.objs.size + 1) none := by
   refine ⟨{ cls := .type "cell", data := .cell none }, Heap.get?_push_of_some _ ?_, rfl⟩
   have := Heap.get?_push_size (s.heap.push { cls := .type "frame", data := .dict #[] }) (o := { cls := .type "cell", data := .cell none }) rfl
   rw [Heap.size_push] at this; exact this
 have hc2 : (((s.heap.push { cls := .type "frame", data := .dict #[] }).push { cls := .type "cell", data := .cell none }).push { cls := .type "cell", data := .cell none }).IsCell (s.heap.objs.size + 2) none := by
   refine ⟨{ cls := .type "cell", data := .cell none }, ?_, rfl⟩
   have := Heap.get?_push_size ((s.heap.push { cls := .type "frame", data := .dict #[] }).push { cls := .type "cell", data := .cell none }) (o := { cls := .type "cell", data := .cell none }) rfl
   rw [Heap.size_push, Heap.size_push] at this; exact this
 have hk : Keep s.heap (((s.heap.push { cls := .type "frame", data := .dict #[] }).push { cls := .type "cell", data := .cell none }).push { cls := .type "cell", data := .cell none }) := (Keep.push _ _).trans ((Keep.push _ _).trans (Keep.push _ _))
 have hz : (((s.heap.push { cls := .type "frame", data := .dict #[] }).push { cls := .type "cell", data := .cell none }).push { cls := .type "cell", data := .cell none }).objs.size = s.heap.objs.size + 3 := by rw [Heap.size_push, Heap.size_push, Heap.size_push]
 generalize (((s.heap.push { cls := .type "frame", data := .dict #[] }).push { cls := .type "cell", data := .cell none }).push { cls := .type "cell", data := .cell none }) = H at hns0 hc1 hc2 hk hz
 rw [List.forIn_cons]
 refine wpAny_bind (wpAny_bind (wpAny_bind (wpAny_storeName_cell rfl (by trivial) (c := s.heap.objs.size + 1) (by trivial) hc1 fun h₁ hv₁ hs₁ => wpAny_pure ?_)))
 dsimp only
 rw [List.forIn_cons]
 have hc2' := hc2.sameBut hs₁ (Nat.ne_of_gt (Nat.lt_succ_self _))
 refine wpAny_bind (wpAny_bind (wpAny_storeName_cell rfl (by trivial) (c := s.heap.objs.size + 2) (by trivial) hc2' fun h₂ hv₂ hs₂ => wpAny_pure ?_))
 dsimp only
 rw [List.forIn_nil]
 refine wpAny_pure (wpAny_pure ?_)
 have n1 : (s.heap.objs.size : Nat) ≠ s.heap.objs.size + 1 := by omega
 have n2 : (s.heap.objs.size : Nat) ≠ s.heap.objs.size + 2 := by omega
 refine h _ ⟨⟨rfl, rfl, rfl⟩, fun b o e => ?_, ?_⟩ ((hns0.sameBut hs₁ n1).sameBut hs₂ n2) (hv₁.sameBut hs₂ (Nat.ne_of_lt (Nat.lt_succ_self _))) hv₂
 · have hb : b < s.heap.objs.size := Heap.lt_size e
   show h₂.get? b = some o
   rw [hs₂.2 b (Nat.ne_of_lt (Nat.lt_of_lt_of_le hb (Nat.le_add_right _ _))), hs₁.2 b (Nat.ne_of_lt (Nat.lt_of_lt_of_le hb (Nat.le_add_right _ _)))]
   exact hk b o e
 · show _ ≤ h₂.objs.size
   rw [hs₂.1, hs₁.1, hz]; omega
end
noncomputable def accN (alpha a b : List Nat) : Nat → Int
 | 0 => 0
 | k + 1 => stepN alpha a b (accN alpha a b k) k
noncomputable def cmpW (alpha a b : List Nat) : Int := if accN alpha a b (min a.length b.length) ≠ 0 then accN alpha a b (min a.length b.length) else cmp3 (a.length : Nat) (b.length : Nat)
noncomputable def TabF (c' P' : Addr) (q : Str) (h : Heap) : Prop := ∃ ps, CodeTab h c' P' ps ∧ (codeAmong (lamQ stepE) ps.toList = none ∨ ∃ cv, codeAmong (lamQ stepE) ps.toList = some cv ∧ h.CodeRec cv (q ++ "<lambda>"))
theorem TabF.keeps {c' P' : Addr} {q : Str} {h h' : Heap} (x : TabF c' P' q h) (k : Keep h h') : TabF c' P' q h' := by
 refine el_EA x ?_; try clear x; intro ps t r
 refine ⟨ps, t.keeps k, ?_⟩
 rcases r with r | ⟨cv, r1, r2⟩
 · exact .inl r
 · exact .inr ⟨cv, r1, r2.keeps k⟩
structure UT (c' P' : Addr) (q : Str) (s s' : Shared) : Prop where
 st : Sm s s'
 keep : KeepNot [P'] s.heap s'.heap
 tab : TabF c' P' q s'.heap
theorem UT.up {c' P' : Addr} {q : Str} {s s' s'' : Shared} (x : UT c' P' q s s') (u : Up s' s'') : UT c' P' q s s'' := ⟨x.st.trans u.st, fun b o hb e => u.keep b o (x.keep b o hb e), x.tab.keeps u.keep⟩
theorem UT.keep' {c' P' : Addr} {q : Str} {s s' s'' : Shared} (x : UT c' P' q s s') (st : Sm s' s'') (k : Keep s'.heap s''.heap) : UT c' P' q s s'' := ⟨x.st.trans st, fun b o hb e => k b o (x.keep b o hb e), x.tab.keeps k⟩
section
variable {prog : Program} {w : World} {A : Around} {s : Shared} {P : Adr} {mg mb : Str → Option Value}
theorem c_compare {f ca c' P' I₀ : Addr} {cl : List (Str × Addr)} {va : Value} {alpha a b : List Nat} {t1 t2 : Tok} {qual : Str} {hb : Heap} (hroom : A.depth + 5 < recursionLimit) (hh : A.handled = none) (W : Wd P mg mb hb) (kb : Keep hb s.heap) (hbP : hb.objs.size ≤ P')
   (hD : DefAtD hb P.reduce (stmtAt 4)) (hmiss : mg (Str.ofString "_initial_missing") = some (.ref I₀)) (hB : hb.BuiltinsAt mg P')
   (hf : LamC s.heap f cmpE cl (.ref c') qual) (hT : TabF c' P' (qual ++ ".<locals>.") s.heap) (hc0 : cl.lookup (Str.ofString "alphabet") = some ca) (h0 : s.heap.IsCell ca (some va)) (hcaP : ca ≠ P') (hcl : ∃ c9, cl = [(Str.ofString "alphabet", c9)])
   (ha : (RL RC).r (fun x => x ≠ P') s.heap va alpha) (hal : alpha.length ≤ 1000) (hza : a.length ≤ 100) (hzb : b.length ≤ 100) (hma : ∀ c ∈ a, c ∈ alpha) (hmb : ∀ c ∈ b, c ∈ alpha) :
   codeAny (model prog w) A (.call (.ref f) ⟨[.str (sW a) t1, .str (sW b) t2], []⟩) (fun r s' => ∃ v, r = .ok (.ret v) ∧ UT c' P' (qual ++ ".<locals>.") s s' ∧ ∃ t, v = .int (cmpW alpha a b) t) s := by
 refine el_A hf ?_; try clear hf; intro zz0 e2
 refine el_EEE zz0 ?_; clear zz0; intro name pm ctv e1
 have W₀ := W.keeps kb
 refine kla_callFunE (fd := kla_fn name qual (lamP cmpE) (lamB cmpE) (lamS cmpE) cl pm (.ref c') ctv) (by omega) e1 rfl rfl rfl rfl e2 ?_
 have hbind : bindArgs (kla_fn name qual (lamP cmpE) (lamB cmpE) (lamS cmpE) cl pm (.ref c') ctv) ⟨[.str (sW a) t1, .str (sW b) t2], []⟩ = pure [(Str.ofString "one", .str (sW a) t1), (Str.ofString "two", .str (sW b) t2)] := rfl
 rw [hbind]
 refine wpAny_pure (enter_cmp fun s₁ u₁ hns hi1 hi2 => ⟨W₀.lim.keeps u₁.keep, kla_codeExpr ?_⟩)
 refine el_E hcl ?_; try clear hcl; intro c9 zz1
 obtain rfl := zz1
 have hc9 : c9 = ca := by have := hc0; simpa using this
 subst hc9
 generalize henv : newEnv (lamS cmpE) s.heap.objs.size mainGlobals ((Str.ofString "two", s.heap.objs.size + 2) :: (Str.ofString "one", s.heap.objs.size + 1) :: [(Str.ofString "alphabet", c9)]) (qual ++ ".<locals>.") (some f) (.ref c') none builtinsNs = env
 have hcells : env.cells = (Str.ofString "two", s.heap.objs.size + 2) :: (Str.ofString "one", s.heap.objs.size + 1) :: [(Str.ofString "alphabet", c9)] := by rw [← henv]; rfl
 have hq : env.qual = qual ++ ".<locals>." := by rw [← henv]; rfl
 have W₁ := W₀.up u₁
 have kb₁ : Keep hb s₁.heap := kb.trans u₁.keep
 have hT₁ := hT.keeps u₁.keep
 have hPs : P' < s.heap.objs.size := by
   refine el_EA hT ?_; try clear hT; intro ps zz2 _
   refine el_A zz2 ?_; clear zz2; intro _ zz3
   refine el_A zz3 ?_; clear zz3; intro _ e
   exact Heap.lt_size e
 have lam : ∀ (Q : Value → Shared → Prop) (E : Value → Shared → Prop), (∀ f2 s₂, UT c' P' (qual ++ ".<locals>.") s₁ s₂ → s₁.heap.objs.size ≤ s₂.heap.objs.size → LamAt s₂.heap f2 stepE [(Str.ofString "two", s.heap.objs.size + 2), (Str.ofString "one", s.heap.objs.size + 1), (Str.ofString "alphabet", c9)] → Q (.ref f2) s₂) →
     wpAny (model prog w) (A.deeper env) (eval stepE env) Q E s₁ := by
   intro Q E hQ
   have hcl' : closureFor (lamS stepE) env = pure [(Str.ofString "two", s.heap.objs.size + 2), (Str.ofString "one", s.heap.objs.size + 1), (Str.ofString "alphabet", c9)] := by rw [← henv]; with_unfolding_all rfl
   obtain ⟨ps, tab, hn | ⟨cv, hy, hcr⟩⟩ := hT₁
   · refine make_new (c := c') (P := P') (ps := ps) (mg := mg) (params := lamP stepE) (body := lamB stepE) (scope := lamS stepE) (pos := lamQ stepE) rfl hcl' rfl (by rw [← henv]; rfl) (W₁.g) (by rw [← henv]; rfl) tab hn (fun q => ?_) ?_ fun f2 c2 P2 s₂ st k hz hf2 hL hTn hP2 hT2 => ?_
     · have := W.g.lt
       rw [q] at this
       exact Nat.lt_irrefl _ (Nat.lt_of_lt_of_le this hbP)
     · refine el_EEAAAAA hB ?_; try clear hB; intro bm ob g1 g2 g3 g4 g5 g6
       exact ⟨bm, ob, g1, g2, g3, g4, kb₁ _ _ g5, g6⟩
     · refine hQ f2 s₂ ⟨st, k, _, hTn, .inr ⟨.ref c2, ?_, by rw [← hq]; exact hL.2⟩⟩ hz hL.at
       rw [Array.toList_append]
       exact codeAmong_snoc _ tab.1.choose_spec.choose_spec.choose_spec.choose_spec.choose_spec.choose_spec.choose_spec.choose_spec.choose_spec.choose_spec.2.2.2.2.2.2.2.2.2.1 hn
   · refine make_old (c := c') (P := P') (ps := ps) (mg := mg) (params := lamP stepE) (body := lamB stepE) (scope := lamS stepE) (pos := lamQ stepE) rfl hcl' rfl (by rw [← henv]; rfl) (W₁.g) (by rw [← henv]; rfl) tab hy (by rw [hq]; exact hcr) ?_ fun f2 s₂ u₂ hf2 hL => ?_
     · refine el_EEAAAAA hB ?_; try clear hB; intro bm ob g1 g2 g3 g4 g5 g6
       exact ⟨bm, ob, g1, g2, g3, g4, kb₁ _ _ g5, g6⟩
     · exact hQ f2 s₂ ⟨u₂.st, fun b o _ e => u₂.keep b o e, TabF.keeps ⟨ps, tab, .inr ⟨cv, hy, hcr⟩⟩ u₂.keep⟩ u₂.size hL.at
 have g1 : env.globals = mainGlobals := by rw [← henv]; with_unfolding_all rfl
 have g2 : env.builtins = builtinsNs := by rw [← henv]; with_unfolding_all rfl
 have g3 : env.scope.kind = .function := by rw [← henv]; with_unfolding_all rfl
 have gk : ∀ x k, (lamS cmpE).names.lookup x = some k → env.kindOf x = some k := fun x k hx => by rw [← henv]; exact hx
 have c1 : env.cells.lookup (Str.ofString "one") = some (s.heap.objs.size + 1) := by rw [hcells]; with_unfolding_all rfl
 have c2 : env.cells.lookup (Str.ofString "two") = some (s.heap.objs.size + 2) := by rw [hcells]; with_unfolding_all rfl
 have hN1 : (s.heap.objs.size + 1 : Nat) ∉ [P'] := fun q => by
   have q' : (s.heap.objs.size + 1 : Nat) = P' := List.mem_singleton.mp q
   have := ltN hPs; omega
 have hN2 : (s.heap.objs.size + 2 : Nat) ∉ [P'] := fun q => by
   have q' : (s.heap.objs.size + 2 : Nat) = P' := List.mem_singleton.mp q
   have := ltN hPs; omega
 have hN9 : c9 ∉ [P'] := fun q => hcaP (List.mem_singleton.mp q)
 have hbN : ∀ {h' : Heap}, KeepNot [P'] s₁.heap h' → Keep hb h' := fun k b o e => k b o (fun q => by
   have q' : b = P' := List.mem_singleton.mp q
   have h1 := Heap.lt_size e
   rw [q'] at h1
   exact Nat.lt_irrefl _ (Nat.lt_of_lt_of_le h1 hbP)) (kb₁ b o e)
 have icell : ∀ {h' : Heap} {c : Addr} {v : Option Value}, KeepNot [P'] s₁.heap h' → c ∉ [P'] → s₁.heap.IsCell c v → h'.IsCell c v := fun k hc ⟨o, e1, e2⟩ => ⟨o, k _ o hc e1, e2⟩
 have hm : (min a.length b.length) ≤ 100 := by omega
 refine BoolOp_or (wpAny_mono (Q := fun v s' => (∃ t, v = .int (accN alpha a b (min a.length b.length)) t) ∧ UT c' P' (qual ++ ".<locals>.") s₁ s') ?_ (fun v s₇ h₇ => ?_) fun _ _ e => e)
 · exists wpAny_Call_NameR ?_
   exists n_gl W₁ g1 g3 (gk _ _ (by trivial)) (by trivial) W.greduce ?_
   exists cw_def (by trivial) ?_
   exists sp_more (by trivial) ?_
   refine lam _ _ fun f2 s₂ x₂ hz₂ hL => ?_
   have W₂ := W.keeps (hbN x₂.keep)
   have d1 := icell x₂.keep hN1 hi1
   have d2 := icell x₂.keep hN2 hi2
   exists sp_more (by trivial) ?_
   exists wpAny_Call_NameR ?_
   exists n_bi W₂ g1 g2 g3 (gk _ _ (by trivial)) (by trivial) (by decide) (W.no "range" (by decide)) PyProof.Rows.boot_range ?_
   exists cw_type (by trivial) ?_
   exists sp_more (by trivial) ?_
   exists wpAny_Call_NameR ?_
   exists n_bi W₂ g1 g2 g3 (gk _ _ (by trivial)) (by trivial) (by decide) (W.no "min" (by decide)) PyProof.Rows.boot_min ?_
   exists cw_bi (by trivial) ?_
   exists sp_more (by trivial) ?_
   exists wpAny_Call_NameR ?_
   exists n_bi W₂ g1 g2 g3 (gk _ _ (by trivial)) (by trivial) (by decide) (W.no "len" (by decide)) boot_len ?_
   exists cw_bi (by trivial) ?_
   exists sp_more (by trivial) ?_
   exists e_cell c1 g3 (gk _ _ (by trivial)) (by trivial) d1 ?_
   exists spliced_none ?_
   exists lenW (by omega) fun t3 s₃ u₃ => ?_
   have W₃ := W₂.up u₃
   exists sp_more (by trivial) ?_
   exists wpAny_Call_NameR ?_
   exists n_bi W₃ g1 g2 g3 (gk _ _ (by trivial)) (by trivial) (by decide) (W.no "len" (by decide)) boot_len ?_
   exists cw_bi (by trivial) ?_
   exists sp_more (by trivial) ?_
   exists e_cell c2 g3 (gk _ _ (by trivial)) (by trivial) (cellUp d2 u₃) ?_
   exists spliced_none ?_
   exists lenW (by omega) fun t4 s₄ u₄ => ?_
   exists spliced_none ?_
   refine PySem.min_two_ints (deep_none hh env) fun h₅ tk₅ k₅ => ?_
   have emin : ∃ tm, (if ((b.length : Nat) : Int) < (a.length : Nat) then Value.int ((b.length : Nat) : Int) t4 else .int ((a.length : Nat) : Int) t3) = .int ((min a.length b.length : Nat) : Int) tm := by
     by_cases q : ((b.length : Nat) : Int) < (a.length : Nat)
     · rw [if_pos q, Nat.min_eq_right (by omega)]; exact ⟨_, rfl⟩
     · rw [if_neg q, Nat.min_eq_left (by omega)]; exact ⟨_, rfl⟩
   refine el_E emin ?_; try clear emin; intro tm hm'
   rw [hm']
   have x₅ : UT c' P' (qual ++ ".<locals>.") s₁ { s₄ with heap := h₅, toks := tk₅ } := (x₂.up (u₃.trans u₄)).keep' ⟨rfl, rfl, rfl⟩ k₅
   have hL₅ : LamAt h₅ f2 stepE [(Str.ofString "two", s.heap.objs.size + 2), (Str.ofString "one", s.heap.objs.size + 1), (Str.ofString "alphabet", c9)] := hL.keeps ((u₃.trans u₄).keep.trans k₅)
   exists spliced_none ?_
   exists range_one fun r s₆ t5 t6 t7 u₆ hr => ?_
   exists sp_more (by trivial) ?_
   exists wpAny_Constant_int ?_
   exists from_ (Up.toks _ : Up s₆ _) fun s₈ u₈ => ?_
   exists spliced_none ?_
   have x₈ := (x₅.up u₆).up u₈
   have W₈ := W.keeps (hbN x₈.keep)
   have hL₈ := (hL₅.keeps u₆.keep).keeps u₈.keep
   have hD₈ := hD.keeps (hbN x₈.keep)
   exists ⟨hD₈.fn, ?_⟩
   have hr₈ : IsRange s₈.heap r 0 ((min a.length b.length : Nat) : Int) 1 t5 t6 t7 := u₈.keep r _ hr
   have e1' := icell x₈.keep hN1 hi1
   have e2' := icell x₈.keep hN2 hi2
   have e0' := icell x₈.keep hN9 (cellUp h0 u₁)
   have ha₈ : (RL RC).r All s₈.heap va alpha := (RL RC).mono (fun _ _ => trivial) ((RL RC).up (fun b o hb e => x₈.keep b o (fun q => hb (List.mem_singleton.mp q)) (u₁.keep b o e)) ha)
   exists call_ret (c_reduce (k := min a.length b.length) (acc := accN alpha a b) (room0 (by omega)) (deep_none hh _) W₈ hD₈ hmiss hr₈ (by omega) hL₈.fn rfl (fun i ta tb s' env' hi u' => ?_)) fun v s₉ u₉ hv => ?_
   · refine c_step (cl := [(Str.ofString "two", s.heap.objs.size + 2), (Str.ofString "one", s.heap.objs.size + 1), (Str.ofString "alphabet", c9)]) (ca := c9) (c1 := s.heap.objs.size + 1) (c2 := s.heap.objs.size + 2) ?_ (W₈.up u') (hL₈.keeps u'.keep) (by trivial) (by trivial) (by trivial) (cellUp e0' u') (cellUp e1' u') (cellUp e2' u') ((RL RC).at ha₈ u') hal (by omega) (by omega) (by omega) hma hmb
     show A.depth + 1 + 1 + 1 < recursionLimit
     omega
   · exact ⟨hv, x₈.up u₉⟩
 · refine el_A h₇ ?_; try clear h₇; intro zz4 x₇
   refine el_E zz4 ?_; clear zz4; intro t7 zz5
   obtain rfl := zz5
   have x₀ : UT c' P' (qual ++ ".<locals>.") s s₇ := ⟨u₁.st.trans x₇.st, fun b o hb e => x₇.keep b o hb (u₁.keep b o e), x₇.tab⟩
   exists PyProof.Rows.truthy_int ?_
   by_cases hz : accN alpha a b (min a.length b.length) = 0
   · rw [hz, if_neg (by simp)]
     have hw : cmpW alpha a b = cmp3 (a.length : Nat) (b.length : Nat) := by unfold cmpW; rw [hz]; rfl
     have W₇ := W.keeps (hbN x₇.keep)
     have d1 := icell x₇.keep hN1 hi1
     have d2 := icell x₇.keep hN2 hi2
     exists BoolOp_one ?_
     exists wpAny_Call_NameR ?_
     exists n_gl W₇ g1 g3 (gk _ _ (by trivial)) (by trivial) W.gcmp3 ?_
     exists cw_def (by trivial) ?_
     exists sp_more (by trivial) ?_
     exists wpAny_Call_NameR ?_
     exists n_bi W₇ g1 g2 g3 (gk _ _ (by trivial)) (by trivial) (by decide) (W.no "len" (by decide)) boot_len ?_
     exists cw_bi (by trivial) ?_
     exists sp_more (by trivial) ?_
     exists e_cell c1 g3 (gk _ _ (by trivial)) (by trivial) d1 ?_
     exists spliced_none ?_
     exists lenW (by omega) fun t8 s₈ u₈ => ?_
     have W₈ := W₇.up u₈
     exists sp_more (by trivial) ?_
     exists wpAny_Call_NameR ?_
     exists n_bi W₈ g1 g2 g3 (gk _ _ (by trivial)) (by trivial) (by decide) (W.no "len" (by decide)) boot_len ?_
     exists cw_bi (by trivial) ?_
     exists sp_more (by trivial) ?_
     exists e_cell c2 g3 (gk _ _ (by trivial)) (by trivial) (cellUp d2 u₈) ?_
     exists spliced_none ?_
     exists lenW (by omega) fun t9 s₉ u₉ => ?_
     exists spliced_none ?_
     have W₉ := W₈.up u₉
     exists ⟨W₉.dcmp3.fn, ?_⟩
     exists call_ret (c_cmp3 (room0 (by omega)) W₉) fun v s₁₀ u₁₀ hv => ?_
     refine el_E hv ?_; try clear hv; intro t11 zz6
     obtain rfl := zz6
     exact ⟨_, rfl, ((x₀.up u₈).up u₉).up u₁₀, t11, by rw [hw]⟩
   · rw [if_pos (by simpa using hz)]
     have hw : cmpW alpha a b = accN alpha a b (min a.length b.length) := if_pos hz
     exact ⟨_, rfl, x₀, t7, by rw [hw]⟩
end
noncomputable def DefC (h : Heap) (a : Addr) (st : Stmt) (cd : Value) : Prop :=
 ∃ o pm doc, h.get? a = some o ∧ o.data = .func (docDef (nmOf st) (psOf st) (bdOf st) (scOf st) pm cd doc) ∧ h.CodeRec cd (nmOf st)
theorem enterC {prog : Program} {w : World} {A : Around} {s : Shared} {st : Stmt} {a : Addr} {cd : Value} {args : List Value} {binds : List (Str × Value)} {R : Result → Shared → Prop} (hroom : A.depth < recursionLimit) (ho : DefC s.heap a st cd) (hlim : s.heap.NoLimit)
   (hbind : ∀ pm doc, bindArgs (docDef (nmOf st) (psOf st) (bdOf st) (scOf st) pm cd doc) ⟨args, []⟩ = pure binds)
   (hkind : (binds.all fun y => (scOf st).names.lookup y.1 == some .local || (scOf st).names.lookup y.1 == some .cell) = true)
   (hone : ((scOf st).names.all fun p => !(p.2 == .cell) || !((scOf st).names.lookup p.1 == some .local)) = true)
   (h : ∀ L s₁ n, L = s.heap.objs.size → Fz s.heap (envOfC (nmOf st) (scOf st) L a cd) n s₁.heap s₁.heap (bindM binds fun _ => none) → Up s s₁ →
     wpAny (model prog w) (A.deeper (envOfC (nmOf st) (scOf st) L a cd)) (execs (bdOf st) (envOfC (nmOf st) (scOf st) L a cd))
       (fun f s' => R (.ok (.ret (match f with | .ret v => v | _ => .none))) s') (fun _ _ => False) s₁)
   (hco : (scOf st).isCoroutine = false) (hgen : (scOf st).isGenerator = false) (hk : (scOf st).kind = .function) :
   codeAny (model prog w) A (.call (.ref a) ⟨args, []⟩) R s := by
 refine el_EEEAA ho ?_; try clear ho; intro o pm doc e hd hc
 refine call_cells hroom e hd hlim hc (hbind pm doc) (kindsX hkind _) (fun h₁ tk F X => ?_) hco hgen hk
 refine wpAny_mono (h _ { s with heap := h₁, toks := tk } h₁.objs.size rfl ⟨F.keep, F.above, F.ns.lt, Nat.le_refl _, ⟨_, F.ns, fun x hx => bindM_L hx _ _ _ rfl⟩, fun x c hcx => ?_, fun x y c e1 e2 => ?_, KeepOn.refl _ _⟩ ⟨.of _ _, F.keep, Nat.le_of_lt F.ns.lt⟩) (fun _ _ x => x) fun _ _ x => x.elim
 · have hcell := X.cell x c hcx
   have hnl : (envOfC (nmOf st) (scOf st) s.heap.objs.size a cd).kindOf x ≠ some .local := by
     rcases lookup_kind hcx with q | q
     · cases q
     · intro e
       have h1 := List.all_eq_true.mp hone _ q
       have e' : (scOf st).names.lookup x = some .local := e
       rw [e'] at h1
       cases h1
   rw [← bindM_C hnl _ (fun _ => none) (fun _ => none) rfl]
   refine ⟨hcell, X.above x c (mem_of_lookup hcx), ?_⟩
   refine el_EA hcell ?_; try clear hcell; intro oc hoc _
   exact Heap.lt_size hoc
 · exact name_of_addr X.apart (mem_of_lookup e1) (mem_of_lookup e2)
noncomputable def IsTab (h : Heap) (P : Addr) : Prop := ∃ ps, h.get? P = some { cls := .none, data := .fields ps }
theorem IsTab.on {h h' : Heap} {P : Addr} (x : IsTab h P) (k : ∀ o, h.get? P = some o → h'.get? P = some o) : IsTab h' P := let ⟨ps, e⟩ := x; ⟨ps, k _ e⟩
noncomputable def CmpMade (P36 : Addr) (va : Value) (s : Shared) (r : Result) (s' : Shared) : Prop :=
 ∃ f c' P' ca qual, r = .ok (.ret (.ref f)) ∧ Sm s s' ∧ KeepNot [P36] s.heap s'.heap ∧ s.heap.objs.size ≤ s'.heap.objs.size ∧ LamC s'.heap f cmpE [(Str.ofString "alphabet", ca)] (.ref c') qual ∧ TabF c' P' (qual ++ ".<locals>.") s'.heap ∧
   s'.heap.IsCell ca (some va) ∧ s.heap.objs.size ≤ f ∧ s.heap.objs.size ≤ P' ∧ s.heap.objs.size ≤ ca ∧ ca ≠ P' ∧ IsTab s'.heap P36
section
variable {prog : Program} {w : World} {A : Around} {s : Shared} {mg mb : Str → Option Value}
theorem c_lawcmp {a36 c P36 : Addr} {va : Value} (hroom : A.depth < recursionLimit) (hlim : s.heap.NoLimit) (hg : s.heap.Ns mainGlobals mg) (hD : DefC s.heap a36 (stmtAt 36) (.ref c)) (hT : CodeTab s.heap c P36 #[]) (hP : mainGlobals ≠ P36) (hB : s.heap.BuiltinsAt mg P36) :
   codeAny (model prog w) A (.call (.ref a36) ⟨[va], []⟩) (CmpMade P36 va s) s := by
 refine enterC (binds := [(Str.ofString "alphabet", va)]) hroom hD hlim (by intros; rfl) (by rfl) (by rfl) ?_ rfl rfl rfl
 intro L s₁ n hL F u
 refine wpAny_execs_cons ?_
 exists wpAny_Return_some ?_
 have hcl : closureFor (lamS cmpE) (envOfC (nmOf (stmtAt 36)) (scOf (stmtAt 36)) L a36 (.ref c)) = pure [(Str.ofString "alphabet", L + 1)] := (by trivial)
 have hcell := F.cs (Str.ofString "alphabet") (L + 1) (by trivial)
 refine make_new (c := c) (P := P36) (ps := #[]) (mg := mg) (params := lamP cmpE) (body := lamB cmpE) (scope := lamS cmpE) (pos := lamQ cmpE) (by trivial) hcl rfl (by trivial) (hg.keeps u.keep) (by trivial) (hT.keeps u.keep) rfl hP ?_ fun f c' P' s₂ st k hz hf hLam hTn hP' hT' => ?_
 · refine el_EEAAAAA hB ?_; try clear hB; intro bm ob g1 g2 g3 g4 g5 g6
   exact ⟨bm, ob, g1, g2, g3, g4, u.keep _ _ g5, g6⟩
 have hLP : (L + 1 : Nat) ≠ P36 := fun q => by
   have h1 : P36 < s.heap.objs.size := by obtain ⟨_, ⟨_, e⟩⟩ := hT; exact Heap.lt_size e
   rw [← q, ← hL] at h1
   exact absurd h1 (Nat.not_lt.mpr (Nat.le_succ _))
 have hc2 : s₂.heap.IsCell (L + 1) (some va) := by
   refine el_EA (hcell.1) ?_; intro o e1 e2
   exact ⟨o, k _ o (fun q => hLP (List.mem_singleton.mp q)) e1, e2⟩
 have hlt1 : (L + 1 : Nat) < s₁.heap.objs.size := by
   refine el_EA (hcell.1) ?_; intro o e1 _
   exact Heap.lt_size e1
 refine ⟨f, c', P', L + 1, _, rfl, u.st.trans st, fun b o hb e => k b o hb (u.keep b o e), Nat.le_trans u.size hz, hLam, ⟨#[], hT', .inl rfl⟩, hc2, Nat.le_trans u.size hf, Nat.le_trans u.size hP', ?_, fun q => ?_, ⟨_, hTn.2.2⟩⟩
 · rw [hL]; exact Nat.le_succ _
 · rw [← q] at hP'
   exact Nat.lt_irrefl _ (Nat.lt_of_lt_of_le hlt1 hP')
end
theorem wp_evV {α : Type} {cmp : Nat → Nat → (Bool → Shared → Prop) → Shared → Prop} {n : Nat} {r : Nat → Int} {V : Shared → Prop} {N : List Addr} {s₀ : Shared} (hcmp : ∀ i j C s, i < n → j < n → V s → (Sm s₀ s ∧ KeepNot N s₀.heap s.heap) → (∀ s', V s' → Sm s s' → KeepNot N s.heap s'.heap → C (decide (r i < r j)) s') → cmp i j C s) :
   ∀ (t : KasT α) {Q : α → Shared → Prop} {s : Shared}, V s → (Sm s₀ s ∧ KeepNot N s₀.heap s.heap) → Rng n r t → (∀ s', V s' → (Sm s₀ s' ∧ KeepNot N s₀.heap s'.heap) → Q (ev r t) s') → t.kasWp cmp Q s
 | .ret _, _, s, v, u, _, h => h s v u
 | .ask i j k, _, _, v, u, hr, h => hcmp i j _ _ hr.1 hr.2.1 v u fun s' v' st' k' => wp_evV hcmp (k _) v' ⟨u.1.trans st', fun b o hb e => k' b o hb (u.2 b o hb e)⟩ hr.2.2 h
section
variable {prog : Program} {w : World} {A : Around} {E : Value → Shared → Prop} {s : Shared} {s₀ : Shared} {κ : Type}
theorem sort_coreV {V : Shared → Prop} {N : List Addr} {it : Array Keyed} {r : Nat → Int} {Q : Unit → SortSt → Shared → Prop} (hv : V s) (h2 : 2 ≤ it.size) (h7 : it.size ≤ 7)
   (hcmp : ∀ i j C s', i < it.size → j < it.size → V s' → (Sm s s' ∧ KeepNot N s.heap s'.heap) → (∀ s'', V s'' → Sm s' s'' → KeepNot N s'.heap s''.heap → C (decide (r i < r j)) s'') → kas_cmp prog w A oneType' it i j C s')
   (fin : ∀ p st' s', (V s' ∧ Sm s s' ∧ KeepNot N s.heap s'.heap) → p.toList.Perm (List.range it.size) → SortedP r p it.size → arrOf st' = p.map (kas_item it) → failedOf st' = none → Q () st' s') :
   kasC (model prog w) A E sortRuns' Q (SortSt.mk' oneType' it #[] 7 none) s := by
 refine el_AA (sort_ok (r := r) h2 h7) ?_; intro a1 a2 a3
 have run := kas_runs (prog := prog) (w := w) (A := A) (E := E) (κ := oneType') (it := it) (s := s) (Q := Q) (G := fun p s' => (V s' ∧ Sm s s' ∧ KeepNot N s.heap s'.heap) ∧ p.toList.Perm (List.range it.size) ∧ SortedP r p it.size) h2 (by lia)
   (fun p st' s' b1 b2 b3 b4 => fin p st' s' b4.1 b4.2.1 b4.2.2 b2 b3) (wp_evV hcmp _ hv ⟨Sm.refl s, fun _ _ _ e => e⟩ a1 fun s' v u => ⟨⟨v, u⟩, a2, a3⟩)
 have est : kas_st oneType' it (List.toArray (List.range it.size)) = SortSt.mk' oneType' it #[] 7 none := by
   unfold kas_st
   rw [kas_range]
 rw [est] at run
 exact run
theorem sort_keyV {V : Shared → Prop} {N : List Addr} (hN : ∀ b ∈ N, b < s₀.heap.objs.size) (hV0 : ∀ s', Up s₀ s' → V s') {a : Addr} {f : Value} {vs : List Value} {ks : List κ} {RK : Rel κ} {n : Nat} {T : Value} {r : Nat → Int} {R : PySem.Fin → Shared → Prop} (u₀ : Up s₀ s) (ha : s₀.heap.objs.size ≤ a) (ho : s.heap.get? a = some (seqObj "list" (List.toArray vs) n)) (h2 : 2 ≤ vs.length) (h7 : vs.length ≤ 7) (hlen : ks.length = vs.length)
   (hkey : ∀ (i : Nat) v x s' (Q' : Value → Shared → Prop), vs[i]? = some v → ks[i]? = some x → Up s₀ s' → (∀ kv s'', Up s' s'' → RK.r (fun b => s'.heap.objs.size ≤ b) s''.heap kv x → Q' kv s'') → wpAny (model prog w) A (call f [v]) Q' (fun _ _ => False) s')
   (hT : ∀ s' kv x, x ∈ ks → RK.r All s'.heap kv x → Up s₀ s' → Looks (model prog w) s'.heap (typeOf kv) T) (hT1 : (T != Value.type "tuple") = true) (hT2 : (T == T) = true)
   (hcmp : ∀ (i j : Nat) x y kx ky C s', ks[i]? = some x → ks[j]? = some y → RK.r All s'.heap kx x → RK.r All s'.heap ky y → V s' → (∀ s'', V s'' → Sm s' s'' → KeepNot N s'.heap s''.heap → C (decide (r i < r j)) s'') → wpAny (model prog w) A (keyLt' oneType' kx ky) C (fun _ _ => False) s')
   (fin : ∀ p s' c, Sm s₀ s' → KeepNot N s₀.heap s'.heap → p.toList.Perm (List.range vs.length) → SortedP r p vs.length → s'.heap.get? a = some (seqObj "list" (List.toArray (p.toList.map fun i => vs.getD i .none)) c) → R (.done (.ret .none)) s') :
   wpAny (model prog w) A (ksk_tree a f false) R E s := by
 have keep0 : ∀ {b : Addr} {h h' : Heap}, s₀.heap.objs.size ≤ b → Keep s₀.heap h → Heap.SameBut b h h' → Keep s₀.heap h' := fun hb k hs c o e => (hs.2 c fun q => by have := Heap.lt_size e; rw [q] at this; exact Nat.lt_irrefl _ (Nat.lt_of_lt_of_le this hb)).trans (k c o e)
 have s1 := Heap.SameBut.update s.heap a (Obj.mapSeq fun _ => (#[] : Array Value))
 refine el_E (show ∃ e1, (s.heap.update a (Obj.mapSeq fun _ => (#[] : Array Value))).get? a = some (seqObj "list" #[] e1) from ⟨_, get?_update_seq ho fun _ => #[]⟩) ?_; intro e1 ho1
 have k1 := keep0 ha u₀.keep s1
 have halt : a < s.heap.objs.size := Heap.lt_size ho
 generalize hH : s.heap.update a (Obj.mapSeq fun _ => (#[] : Array Value)) = H at s1 ho1 k1
 unfold ksk_tree
 refine wpAny_bind (listItems_at ho rfl ?_)
 refine wpAny_bind (listUpdate_at ho rfl ?_ (by rw [List.size_toArray, sizeLine_eq]; lia) (Nat.zero_le _))
 rw [hH]
 refine wpAny_bind (seqEpoch_at ho1 rfl ?_)
 refine wpAny_bind (wpAny_newTuple ?_ (by show vs.length ≤ _; rw [sizeLine_eq]; lia))
 refine wpAny_bind (wpAny_newList ?_ (Nat.zero_le _))
 refine wpAny_holding ?_
 generalize hkS : (H.push (seqObj "tuple" (List.toArray vs) 0)).objs.size = kS
 have hkSn : kS = s.heap.objs.size + 1 := by rw [← hkS, Heap.size_push, s1.1]
 have hkS0 : s₀.heap.objs.size ≤ kS := by have := u₀.size; lia
 have hka : kS ≠ a := Nat.ne_of_gt (by rw [hkSn]; exact Nat.lt_succ_of_lt halt)
 have u₁ : Up s₀ { s with heap := (H.push (seqObj "tuple" (List.toArray vs) 0)).push (seqObj "list" #[] 0) } := ⟨⟨u₀.st.gens, u₀.st.drawn, u₀.st.os⟩, k1.trans ((Keep.push _ _).trans (Keep.push _ _)), by
   show _ ≤ ((H.push _).push _).objs.size
   rw [Heap.size_push, hkS]; lia⟩
 have ho2 : ({ s with heap := (H.push (seqObj "tuple" (List.toArray vs) 0)).push (seqObj "list" #[] 0) } : Shared).heap.get? a = some (seqObj "list" #[] e1) := Heap.get?_push_of_some _ (Heap.get?_push_of_some _ ho1)
 have hk2 : ({ s with heap := (H.push (seqObj "tuple" (List.toArray vs) 0)).push (seqObj "list" #[] 0) } : Shared).heap.get? kS = some (seqObj "list" #[] 0) := hkS ▸ Heap.get?_push_size _ rfl
 show wpAny (model prog w) A (ksk_rest a f false (List.toArray vs) e1 (.ref kS)) R E { s with heap := (H.push (seqObj "tuple" (List.toArray vs) 0)).push (seqObj "list" #[] 0) }
 generalize ({ s with heap := (H.push (seqObj "tuple" (List.toArray vs) 0)).push (seqObj "list" #[] 0) } : Shared) = s₁ at u₁ ho2 hk2
 unfold ksk_rest
 refine wpAny_bind (wpAny_rule ?_)
 rw [List.forIn_toArray]
 refine wpAny_bind (ksk_fold (fun i s' => ∃ kA e, Up s₀ s' ∧ s'.heap.get? kS = some (seqObj "list" (List.toArray kA) e) ∧ s'.heap.get? a = some (seqObj "list" #[] e1) ∧ ∀ h'', KeepOn (fun b => kS < b) s'.heap h'' → Paired (RK.r (fun b => kS < b) h'') kA (ks.take i)) vs 0 s₁
   ⟨[], 0, u₁, hk2, ho2, fun _ _ => by simpa using Paired.nil⟩ ?step ?done)
 case step =>
   intro j v s' hv zzM41_63_4
   refine el_EEAAA zzM41_63_4 ?_; clear zzM41_63_4; intro kA e u' hk' ha' hp'
   simp only [Nat.zero_add] at hp' ⊢
   have hj : j < vs.length := (List.getElem?_eq_some_iff.mp hv).1
   refine el_E (show ∃ x, ks[j]? = some x from ⟨_, List.getElem?_eq_getElem (by lia)⟩) ?_; intro x hx
   have hkl : kA.length ≤ 7 := by
     have := Paired.length (hp' _ (KeepOn.refl _ _))
     rw [List.length_take] at this; lia
   refine wpAny_bind (wpAny_attempt (wpAny_mono (hkey j v x s' (fun kv s'' => Up s' s'' ∧ RK.r (fun b => s'.heap.objs.size ≤ b) s''.heap kv x) hv hx u' fun kv s'' u'' hR => ⟨u'', hR⟩) (fun kv s'' ⟨u'', hR⟩ => ?_) fun _ _ h => h.elim))
   dsimp only
   have hk'' := u''.keep _ _ hk'
   have ha'' := u''.keep _ _ ha'
   have t1 := Heap.SameBut.update s''.heap kS (Obj.mapSeq (·.push kv))
   refine el_E (show ∃ c2, (s''.heap.update kS (Obj.mapSeq (·.push kv))).get? kS = some (seqObj "list" ((List.toArray kA).push kv) c2) from ⟨_, get?_update_seq hk'' (·.push kv)⟩) ?_; intro c2 hc2
   refine wpAny_bind (listUpdate_at hk'' rfl ?_ (by rw [List.size_toArray, sizeLine_eq]; lia) (by rw [Array.size_push, List.size_toArray, sizeLine_eq]; lia))
   have u2 := u'.trans u''
   have hkSs : kS < s'.heap.objs.size := Heap.lt_size hk'
   refine wpAny_pure ⟨rfl, kA ++ [kv], c2, ⟨⟨u2.st.gens, u2.st.drawn, u2.st.os⟩, keep0 hkS0 u2.keep t1, by rw [t1.1]; exact u2.size⟩, by rw [List.push_toArray] at hc2; exact hc2, (t1.2 _ (Ne.symm hka)).trans ha'', fun h'' kk => ?_⟩
   have ek : ks.take (j + 1) = ks.take j ++ [x] := by rw [List.take_add_one, hx]; rfl
   rw [ek]
   have nk : ∀ b : Nat, kS < b → b ≠ kS := fun b hb => Nat.ne_of_gt hb
   refine Paired.snoc (hp' h'' fun b o hb e => kk b o hb ((t1.2 b (nk b hb)).trans (u''.keep b o e))) ?_
   refine RK.mono (fun b hb => Nat.lt_of_lt_of_le hkSs hb) (RK.up (fun b o hb e => ?_) hR)
   have hb' : kS < b := Nat.lt_of_lt_of_le hkSs hb
   exact kk b o hb' ((t1.2 b (nk b hb')).trans e)
 case done =>
   intro s' zzM41_88_1
   refine el_EEAAA zzM41_88_1 ?_; clear zzM41_88_1; intro kA e u' hk' ha' hp'
   have e3 : ks.take (0 + vs.length) = ks := List.take_of_length_le (by lia)
   rw [e3] at hp'
   have hpn := hp' _ (KeepOn.refl _ _)
   have hkl := Paired.length hpn
   try dsimp only
   refine wpAny_bind (listItems_at hk' rfl ?_)
   unfold ksk_end
   simp only [Bool.false_eq_true, if_false]
   have hn2 : ¬ (List.toArray vs).size < 2 := by rw [List.size_toArray]; lia
   rw [if_neg hn2, if_neg hn2]
   refine wpAny_bind (kas_kind (T := T) (by lia) (fun kv hkv => ?_) hT1 hT2 ?_)
   · obtain ⟨i, hi, zz0⟩ := List.getElem_of_mem hkv
     obtain rfl := zz0
     refine el_EA (Paired.get' hpn (List.getElem?_eq_getElem hi)) ?_; intro x hx hR
     exact hT s' _ x (List.mem_of_getElem? hx) (RK.mono (fun _ _ => trivial) hR) u'
   have hzs : ((List.toArray kA).zip (List.toArray vs)).size = vs.length := by rw [Array.size_zip, List.size_toArray, List.size_toArray]; lia
   have hit := item_zip kA vs (by lia)
   have run := sort_coreV (V := V) (N := N) (prog := prog) (w := w) (A := A) (E := E) (s := s') (it := (List.toArray kA).zip (List.toArray vs)) (r := r) (Q := fun _ st' s'' => ∃ p : Array Nat, (V s'' ∧ Sm s' s'' ∧ KeepNot N s'.heap s''.heap) ∧ p.toList.Perm (List.range vs.length) ∧ SortedP r p vs.length ∧ arrOf st' = p.map (kas_item ((List.toArray kA).zip (List.toArray vs))) ∧ failedOf st' = none) (hV0 s' u') (by lia) (by lia)
     (fun i j C s'' hi hj v u h => by
       unfold kas_cmp
       rw [hit, hit]
       refine el_E (show ∃ x, ks[i]? = some x from ⟨_, List.getElem?_eq_getElem (by lia)⟩) ?_; intro x hx
       refine el_E (show ∃ y, ks[j]? = some y from ⟨_, List.getElem?_eq_getElem (by lia)⟩) ?_; intro y hy
       refine el_EA (Paired.get hpn hx) ?_; intro kx hkx hRx
       refine el_EA (Paired.get hpn hy) ?_; intro ky hky hRy
       rw [getElem?_getD hkx, getElem?_getD hky]
       have up : ∀ {k z}, RK.r (fun b => kS < b) s'.heap k z → RK.r All s''.heap k z := fun hR => RK.mono (fun _ _ => trivial) (RK.up (fun b o hb e => u.2 b o (fun q => Nat.lt_irrefl _ (Nat.lt_of_lt_of_le (Nat.lt_trans hb (hN b q)) hkS0)) e) hR)
       exact hcmp i j x y kx ky C s'' hx hy (up hRx) (up hRy) v h)
     (fun p st' s'' u b1 b2 b3 b4 => ⟨p, u, by rw [← hzs]; exact b1, by rw [← hzs]; exact b2, b3, b4⟩)
   refine wpAny_bind (wpAny_mono run ?_ fun _ _ e => e)
   rintro ⟨⟨⟩, st'⟩ s'' ⟨p, u, hp, hs, har, hf⟩
   have hk3 := u.2.2 _ _ (fun q => Nat.lt_irrefl _ (Nat.lt_of_lt_of_le (hN _ q) hkS0)) hk'
   have ha3 := u.2.2 _ _ (fun q => Nat.lt_irrefl _ (Nat.lt_of_lt_of_le (hN _ q) ha)) ha'
   have hout : (arrOf st').map (·.2) = List.toArray (p.toList.map fun i => vs.getD i .none) := by
     apply Array.toList_inj.mp
     rw [har, Array.map_map, Array.toList_map]
     exact List.map_congr_left fun i _ => by show (kas_item ((List.toArray kA).zip (List.toArray vs)) i).2 = _; rw [hit]
   have hsz : (List.toArray (p.toList.map fun i => vs.getD i Value.none)).size = vs.length := by rw [List.size_toArray, List.length_map, hp.length_eq, List.length_range]
   have t1 := Heap.SameBut.update s''.heap kS (Obj.mapSeq fun _ => (#[] : Array Value))
   have ha4 : (s''.heap.update kS (Obj.mapSeq fun _ => (#[] : Array Value))).get? a = some (seqObj "list" #[] e1) := (t1.2 _ (Ne.symm hka)).trans ha3
   have t2 := Heap.SameBut.update (s''.heap.update kS (Obj.mapSeq fun _ => (#[] : Array Value))) a (Obj.mapSeq fun _ => List.toArray (p.toList.map fun i => vs.getD i Value.none))
   refine el_E (show ∃ c2, ((s''.heap.update kS (Obj.mapSeq fun _ => (#[] : Array Value))).update a (Obj.mapSeq fun _ => List.toArray (p.toList.map fun i => vs.getD i Value.none))).get? a = some (seqObj "list" (List.toArray (p.toList.map fun i => vs.getD i Value.none)) c2) from ⟨_, get?_update_seq ha4 fun _ => List.toArray (p.toList.map fun i => vs.getD i Value.none)⟩) ?_; intro c2 hc2
   try dsimp only
   unfold ksk_tail
   try dsimp only
   rw [hout]
   refine wpAny_bind (listUpdate_at hk3 rfl ?_ (by rw [List.size_toArray, sizeLine_eq]; lia) (Nat.zero_le _))
   refine wpAny_bind (wpAny_letGo ?_)
   refine wpAny_bind (seqEpoch_at ha4 rfl ?_)
   refine wpAny_bind (listUpdate_at ha4 rfl ?_ (Nat.zero_le _) (by rw [if_neg (by simp), sizeLine_eq, hsz]; lia))
   rw [hf]
   simp only [bne_self_eq_false, Bool.false_eq_true, if_false]
   have st3 := u'.st.trans u.2.1
   have keepN : ∀ {b : Addr} {h h' : Heap}, s₀.heap.objs.size ≤ b → KeepNot N s₀.heap h → Heap.SameBut b h h' → KeepNot N s₀.heap h' := fun hb k hs c o hc e => (hs.2 c fun q => by have := Heap.lt_size e; rw [q] at this; exact Nat.lt_irrefl _ (Nat.lt_of_lt_of_le this hb)).trans (k c o hc e)
   exact wpAny_pure (fin p _ c2 ⟨st3.gens, st3.drawn, st3.os⟩ (keepN ha (keepN hkS0 (fun b o hb e => u.2.2 b o hb (u'.keep b o e)) t1) t2) hp hs hc2)
theorem sorted_keyV {V : Shared → Prop} {N : List Addr} (hN : ∀ b ∈ N, b < s.heap.objs.size) (hV0 : ∀ s', Up s s' → V s') {l q : Addr} {vs : List Value} {ks : List κ} {RK : Rel κ} {T : Value} {r : Nat → Int} {Q : Value → Shared → Prop} (hl : s.heap.PlainList l (List.toArray vs)) (h2 : 2 ≤ vs.length) (h7 : vs.length ≤ 7) (hlen : ks.length = vs.length)
   (hkey : ∀ (i : Nat) v x s' (Q' : Value → Shared → Prop), vs[i]? = some v → ks[i]? = some x → Up s s' → (∀ kv s'', Up s' s'' → RK.r (fun b => s'.heap.objs.size ≤ b) s''.heap kv x → Q' kv s'') → wpAny (model prog w) A.in1.in1 (call (.ref q) [v]) Q' (fun _ _ => False) s')
   (hT : ∀ s' kv x, x ∈ ks → RK.r All s'.heap kv x → Up s s' → Looks (model prog w) s'.heap (typeOf kv) T) (hT1 : (T != Value.type "tuple") = true) (hT2 : (T == T) = true)
   (hcmp : ∀ (i j : Nat) x y kx ky C s', ks[i]? = some x → ks[j]? = some y → RK.r All s'.heap kx x → RK.r All s'.heap ky y → V s' → (∀ s'', V s'' → Sm s' s'' → KeepNot N s'.heap s''.heap → C (decide (r i < r j)) s'') → wpAny (model prog w) A.in1.in1 (keyLt' oneType' kx ky) C (fun _ _ => False) s')
   (fin : ∀ D p s', Sm s s' → KeepNot N s.heap s'.heap → s.heap.objs.size ≤ D → p.toList.Perm (List.range vs.length) → SortedP r p vs.length → s'.heap.PlainList D (List.toArray (p.toList.map fun i => vs.getD i .none)) → Q (.ref D) s') :
   wpAny (model prog w) A (call (.builtin "sorted") [.ref l] [(Str.ofString "key", .ref q)]) Q E s := by
 refine call_function_entry_kw kind_sorted plain_sorted entry_sorted (ksk_s1 _ _) ?_
 unfold Builtin.«sorted»
 refine wpAny_bind (m := checkCount "sorted" 1 1 _) (wpAny_pure ?_)
 refine wpAny_bind (collect_list hl.isList ?_ (by rw [sizeLine_eq]; lia))
 refine wpAny_bind (wpAny_newList ?_ (by rw [sizeLine_eq]; lia))
 have hsz : ((s.heap.push (seqObj "list" #[] 0)).update s.heap.objs.size (Obj.mapSeq (· ++ List.toArray vs))).objs.size = s.heap.objs.size + 1 := by
   rw [Heap.size_update, Heap.size_push]
 have hoL : (((s.heap.push (seqObj "list" #[] 0)).update s.heap.objs.size (Obj.mapSeq (· ++ List.toArray vs))).push (seqObj "list" (List.toArray vs) 0)).get? (s.heap.objs.size + 1) = some (seqObj "list" (List.toArray vs) 0) := by
   rw [← hsz]; exact Heap.get?_push_size _ rfl
 have keep : Keep s.heap (((s.heap.push (seqObj "list" #[] 0)).update s.heap.objs.size (Obj.mapSeq (· ++ List.toArray vs))).push (seqObj "list" (List.toArray vs) 0)) := fun b o q => by
   have hlt : b < s.heap.objs.size := Heap.lt_size q
   rw [Heap.get?_push_ne _ _ _ (by rw [hsz]; exact Nat.ne_of_lt (Nat.lt_succ_of_lt hlt)), Heap.get?_update_ne _ _ _ _ (Nat.ne_of_lt hlt), Heap.get?_push_ne _ _ _ (Nat.ne_of_lt hlt)]
   exact q
 show wpAny _ _ _ _ _ { s with heap := ((s.heap.push (seqObj "list" #[] 0)).update s.heap.objs.size (Obj.mapSeq (· ++ List.toArray vs))).push (seqObj "list" (List.toArray vs) 0) }
 rw [hsz]
 have u₁ : Up s { s with heap := ((s.heap.push (seqObj "list" #[] 0)).update s.heap.objs.size (Obj.mapSeq (· ++ List.toArray vs))).push (seqObj "list" (List.toArray vs) 0) } := ⟨⟨rfl, rfl, rfl⟩, keep, by
   show _ ≤ (((s.heap.push (seqObj "list" #[] 0)).update s.heap.objs.size (Obj.mapSeq (· ++ List.toArray vs))).push _).objs.size
   rw [Heap.size_push, hsz]; lia⟩
 refine wpAny_bind (wpAny_holding (wpAny_call_entry_kw slot_list_sort ⟨_, hoL, rfl⟩ entry_list_sort ?_ (ksk_l1 _ _)))
 show wpAny (model prog w) A.in1.in1 (Builtin.«list.sort» ⟨[.ref (s.heap.objs.size + 1)], [(Str.ofString "key", .ref q)]⟩) _ _ _
 rw [ksk_t1]
 refine sort_keyV hN hV0 u₁ (Nat.le_succ _) hoL h2 h7 hlen hkey hT hT1 hT2 hcmp fun p s' c st' k' hp hs ho => ⟨_, rfl, wpAny_pure ⟨_, rfl, ?_⟩⟩
 exact fin _ p s' ⟨st'.gens, st'.drawn, st'.os⟩ k' (Nat.le_succ _) hp hs ⟨c, ho⟩
end
section
open Builtin
section
variable {b : Array UInt8} {c c2 c3 : UInt8} {cs : List UInt8} {t t1 : Tok}
theorem road_l1 {id : String} : _codecs.decodeRoad id b (PySem.Str.ofString "latin1") none [] = (_codecs.runDecoder id _codecs.latin1Decoder none true b 0 [] >>= fun r => mkStr ⟨r.1⟩) := by kernel_rfl
theorem entry_l1 : «bytes.decode» ⟨[.bytes (c :: cs).toArray t, .str (PySem.Str.ofString "latin1") t1], []⟩ = (mkStr (PySem.Str.ofString "utf-8") >>= fun _ => mkStr (PySem.Str.ofString "latin1") >>= fun e => mkStr (PySem.Str.ofString "bytes.decode") >>= fun d =>
 call (.builtin "_codecs.decode.text") [.bytes (c :: cs).toArray t, e, .none, d] >>= fun v => ret v) := by kernel_rfl
theorem run1 {id : String} : _codecs.runDecoder id _codecs.latin1Decoder none true (List.toArray [c]) 0 [] = pure ((#[c.toNat] : Array Nat), 1) := by kernel_rfl
theorem run2 {id : String} : _codecs.runDecoder id _codecs.latin1Decoder none true (List.toArray [c, c2]) 0 [] = pure ((#[c.toNat, c2.toNat] : Array Nat), 2) := by kernel_rfl
theorem run3 {id : String} : _codecs.runDecoder id _codecs.latin1Decoder none true (List.toArray [c, c2, c3]) 0 [] = pure ((#[c.toNat, c2.toNat, c3.toNat] : Array Nat), 3) := by kernel_rfl
theorem text_l1 {x : PySem.Str} {n : Nat} {t2 : Tok} {d : PySem.Str} (hd : ∀ id, _codecs.runDecoder id _codecs.latin1Decoder none true b 0 [] = pure (x.cps, n)) :
   Meets («_codecs.decode.text» ⟨[.bytes b t, .str (PySem.Str.ofString "latin1") t1, .none, .str d t2], []⟩) (fun _ R s => x.length ≤ sizeLine ∧ R (.ok (.ret (.str x s.toks))) { s with toks := s.toks + 1 }) := by
 refine .of_wp fun prog w A R s hS => ?_
 refine el_A hS ?_; try clear hS; intro hsz h
 show wpAny _ _ (Bytes.bytesLike _ (.bytes b t) >>= fun r => _) _ _ s
 refine wpAny_bind (wpAny_of_eq KBd.like_eq ?_)
 refine wpAny_bind (wpAny_of_eq KBd.held_eq ?_)
 show wpAny _ _ (_codecs.decodeRoad _ b (PySem.Str.ofString "latin1") none [] >>= fun v => _) _ _ s
 rw [road_l1, hd]
 refine wpAny_bind (wpAny_bind (wpAny_pure ?_))
 exact wpAny_mkStr (wpAny_pure ⟨_, rfl, h⟩) hsz
theorem decode_l1 {x : PySem.Str} {n : Nat} (hd : ∀ id, _codecs.runDecoder id _codecs.latin1Decoder none true (c :: cs).toArray 0 [] = pure (x.cps, n)) :
   Meets («bytes.decode» ⟨[.bytes (c :: cs).toArray t, .str (PySem.Str.ofString "latin1") t1], []⟩) (fun _ R s => x.length ≤ sizeLine ∧ ∀ t' k, R (.ok (.ret (.str x t'))) { s with toks := k }) := by
 refine .of_wp fun prog w A R s hS => ?_
 refine el_A hS ?_; try clear hS; intro hsz h
 rw [entry_l1]
 refine wpAny_bind (wpAny_mkStr ?_ (by decide))
 refine wpAny_bind (wpAny_mkStr ?_ (by decide))
 refine wpAny_bind (wpAny_mkStr ?_ (by decide))
 exact wpAny_bind (call_function_meets KBd.kind_text KBd.plain_text KBd.entry_text (KBd.args_text _ _ _ _) (text_l1 hd) ⟨hsz, wpAny_pure ⟨_, rfl, h _ _⟩⟩)
end
section
variable {prog : Program} {w : World} {A : Around} {E : Value → Shared → Prop} {s : Shared}
theorem decodeW {l : List Nat} {t t1 : Tok} {Q : Value → Shared → Prop} (h1 : 1 ≤ l.length) (h3 : l.length ≤ 3) (hc : ∀ c ∈ l, c < 256) (h : ∀ t' s', Up s s' → Q (.str (sW l) t') s') :
   wpAny (model prog w) A (call (.builtin "bytes.decode") [.bytes (List.toArray (l.map fun c => c.toUInt8)) t, .str (PySem.Str.ofString "latin1") t1]) Q E s := by
 have key : ∀ (c : UInt8) (cs : List UInt8) (n : Nat), l.map (fun c => c.toUInt8) = c :: cs → (∀ id, _codecs.runDecoder id _codecs.latin1Decoder none true (c :: cs).toArray 0 [] = pure ((sW l).cps, n)) → wpAny (model prog w) A (call (.builtin "bytes.decode") [.bytes (List.toArray (l.map fun c => c.toUInt8)) t, .str (PySem.Str.ofString "latin1") t1]) Q E s := by
   intro c cs n e hd
   rw [e]
   exact call_meets FB.slot_bytes_decode (PySem.W.typeIs_bytes _ _ _) FB.entry_bytes_decode (by unfold argsOk; kernel_rfl) (decode_l1 hd) ⟨by rw [sW_length, sizeLine_eq]; lia, fun t' k => h t' _ (Up.toks k)⟩
 have tn : ∀ c, c ∈ l → c.toUInt8.toNat = c := fun c hm => by
   have := hc c hm
   simp
   lia
 match l, h1, h3, key, tn with
 | [a], _, _, key, tn => exact key a.toUInt8 [] 1 rfl fun id => (run1 (id := id)).trans (by rw [tn a (.head _)])
 | [a, b], _, _, key, tn => exact key a.toUInt8 [b.toUInt8] 2 rfl fun id => (run2 (id := id)).trans (by rw [tn a (.head _), tn b (.tail _ (.head _))])
 | [a, b, d], _, _, key, tn => exact key a.toUInt8 [b.toUInt8, d.toUInt8] 3 rfl fun id => (run3 (id := id)).trans (by rw [tn a (.head _), tn b (.tail _ (.head _)), tn d (.tail _ (.tail _ (.head _)))])
 | [], h1, _, _, _ => exact absurd h1 (by simp)
 | _ :: _ :: _ :: _ :: _, _, h3, _, _ => exact absurd h3 (by simp)
end
end
section
open Builtin
theorem forIn_inv {M : Model} {A : Around} {E : Value → Shared → Prop} {β : Type} {f : Nat → β → Sem (ForInStep β)} {Q : β → Shared → Prop} (I : List Nat → β → Shared → Prop) (L : List Nat) : ∀ (l done : List Nat) (b : β) (s : Shared), done ++ l = L → I done b s →
   (∀ c done rest b s', done ++ c :: rest = L → I done b s' → wpAny M A (f c b) (fun r s'' => ∃ b', r = .yield b' ∧ I (done ++ [c]) b' s'') E s') → (∀ b s', I L b s' → Q b s') → wpAny M A (forIn l b f) Q E s
 | [], done, b, s, e, h, _, fin => by
   rw [List.forIn_nil]
   rw [List.append_nil] at e
   subst e
   exact wpAny_pure (fin b s h)
 | c :: l, done, b, s, e, h, step, fin => by
   rw [List.forIn_cons]
   refine wpAny_bind (wpAny_mono (step c done l b s e h) (fun r s' ⟨b', e', h'⟩ => ?_) fun _ _ e => e)
   subst e'
   exact forIn_inv I L l (done ++ [c]) b' s' (by rw [List.append_assoc]; exact e) h' step fin
noncomputable def PiecesOk (done : List Nat) (st : List PySem.Str × Nat × Bool × List (Nat × Option Nat) × Bool) : Prop :=
 st.1.reverse.flatMap (fun p => p.cps.toList) = done.flatMap signOf ∧ st.2.1 ≤ 3 * done.length ∧ (∀ c a, st.2.2.2.1.lookup c = some a → ∃ d, a = some d ∧ signOf c = [d]) ∧ st.2.2.2.2 = false
theorem ring_sign {c : Nat} (h : c ∈ ring) : (∃ d, signOf c = [d] ∧ d < 128) ∨ ∃ a b e, signOf c = [a, b, e] := by
 simp only [ring, List.mem_cons, List.not_mem_nil, or_false] at h
 rcases h with rfl | rfl | rfl | rfl | rfl | rfl
 · exact .inl ⟨97, by decide, by decide⟩
 · exact .inl ⟨95, by decide, by decide⟩
 · exact .inr ⟨61, 51, 68, by decide⟩
 · exact .inr ⟨61, 69, 57, by decide⟩
 · exact .inr ⟨61, 53, 70, by decide⟩
 · exact .inl ⟨66, by decide, by decide⟩
theorem pieces_add {done : List Nat} {pieces : List PySem.Str} {total n : Nat} {f f' : Bool} {k k' : List (Nat × Option Nat)} {c : Nat} {p : PySem.Str} (h : PiecesOk done (pieces, total, f, k, false)) (hp : p.cps.toList = signOf c) (hn : n ≤ 3)
   (hk : ∀ c a, k'.lookup c = some a → ∃ d, a = some d ∧ signOf c = [d]) : PiecesOk (done ++ [c]) (p :: pieces, total + n, f', k', false) := by
 refine el_AAA h ?_; try clear h; intro h1 h2 h3 h4
 dsimp only at h1 h2
 refine ⟨?_, ?_, hk, rfl⟩
 · dsimp only
   rw [List.reverse_cons, List.flatMap_append, List.flatMap_append, h1]
   simp [hp]
 · dsimp only
   rw [List.length_append]
   simp only [List.length_cons, List.length_nil]
   lia
theorem known_add {k : List (Nat × Option Nat)} {c d : Nat} (h : ∀ c a, k.lookup c = some a → ∃ d, a = some d ∧ signOf c = [d]) (hd : signOf c = [d]) : ∀ c' a, ((c, some d) :: k).lookup c' = some a → ∃ d, a = some d ∧ signOf c' = [d] := by
 intro c' a e
 rw [List.lookup_cons] at e
 by_cases hc : c' = c
 · subst hc
   simp only [BEq.rfl] at e
   cases e
   exact ⟨d, rfl, hd⟩
 · rw [show (c' == c) = false by simp [hc]] at e
   exact h c' a e
theorem foldl_cps : ∀ (l : List PySem.Str) (acc : Array Nat), (l.foldl (fun acc p => acc ++ p.cps) acc).toList = acc.toList ++ l.flatMap (fun p => p.cps.toList)
 | [], acc => by simp
 | p :: l, acc => by rw [List.foldl_cons, foldl_cps l]; simp [List.append_assoc]
theorem ring_len : ∀ (l : List Nat), (∀ c ∈ l, c ∈ ring) → (l.flatMap signOf).length ≤ 3 * l.length
 | [], _ => by simp
 | c :: l, h => by
   have := ring_len l fun c hc => h c (.tail _ hc)
   rw [List.flatMap_cons, List.length_append, List.length_cons]
   have : (signOf c).length ≤ 3 := by
     rcases ring_sign (h c (.head _)) with ⟨d, e, _⟩ | ⟨a, b, d, e⟩ <;> rw [e] <;> simp
   lia
section
variable {prog : Program} {w : World} {A : Around} {E : Value → Shared → Prop} {s : Shared}
theorem isList_at {h h' : Heap} {a : Addr} {vs : Array Value} (x : h.IsList a vs) (k : ∀ o, h.get? a = some o → h'.get? a = some o) : h'.IsList a vs :=
 let ⟨o, e, r⟩ := x; ⟨o, k _ e, r⟩
theorem lookupT {M : Addr} {vs : List Value} {c : Nat} {x : PySem.Str} {tk : Tok} {Q : Builtin.Str.Mapped → Shared → Prop} (hl : s.heap.IsList M (List.toArray vs)) (hc : c < 1000) (hx : vs[c]? = some (.str x tk)) (h : ∀ s', Up s s' → Q (.text x) s') :
   wpAny (model prog w) A (Builtin.Str.tableLookup (.ref M) c) Q E s := by
 unfold Builtin.Str.tableLookup
 refine wpAny_bind (wpAny_attempt ?_)
 refine wpAny_bind (wpAny_mkInt ?_)
 refine wpAny_getItem_list (x := .str x tk) hl (by lia) (by lia) ?_ ?_
 · rw [Int.toNat_natCast, List.getElem?_toArray]; exact hx
 · dsimp only
   refine wpAny_bind (wpAny_of_eq (a := none) rfl ?_)
   dsimp only
   refine wpAny_bind (wpAny_of_eq (a := some x) rfl ?_)
   exact wpAny_pure (h _ (Up.toks _))
theorem translateW {M : Addr} {vs : List Value} {l : List Nat} {t : Tok} {Q : Value → Shared → Prop} (hl : s.heap.IsList M (List.toArray vs)) (hne : l ≠ []) (h3 : l.length ≤ 100) (hr : ∀ c ∈ l, c ∈ ring) (hM : ∀ c ∈ l, ∃ tk, vs[c]? = some (.str (sW (signOf c)) tk)) (h : ∀ t' s', Up s s' → Q (.str (sW (l.flatMap signOf)) t') s') :
   wpAny (model prog w) A (call (.builtin "str.translate") [.str (sW l) t, .ref M]) Q E s := by
 refine wpAny_call_entry PySem.F.slot_str_translate (typeIs_str _ _ _) PySem.F.entry_str_translate ?_ (PySem.F.args_str_translate_2 _ _)
 unfold Builtin.«str.translate»
 refine wpAny_bind (m := Builtin.Str.strOneArg "translate" _) (wpAny_of_eq (a := (Value.str (sW l) t, sW l, Value.ref M)) (by kernel_rfl) ?_)
 have hlen : ((sW l).length == 0) = false := by rw [sW_length]; cases l with | nil => exact absurd rfl hne | cons _ _ => rfl
 dsimp only
 rw [hlen]
 simp only [Bool.false_eq_true, if_false]
 show wpAny (model prog w) A.in1 (forIn l.toArray (([], 0, l.toArray.all fun x => decide (x < 128), [], false) : List PySem.Str × Nat × Bool × List (Nat × Option Nat) × Bool) _ >>= _) _ _ _
 rw [List.forIn_toArray]
 refine wpAny_bind (forIn_inv (fun done st s' => Up s s' ∧ PiecesOk done st) l l [] _ s rfl ⟨Up.refl s, rfl, Nat.zero_le _, (fun c a e => by simp at e), rfl⟩ ?_ ?_)
 · intro c done rest zzM43_90_3 s' hL zzM43_90_6
   obtain ⟨pieces, total, fast, known, ad⟩ := zzM43_90_3
   refine el_AAAA zzM43_90_6 ?_; clear zzM43_90_6; intro u hp ht hk had
   have hcl : c ∈ l := by rw [← hL]; simp
   refine el_E (hM c hcl) ?_; intro tk hx
   have hring := hr c hcl
   have hdl : done.length < l.length := by rw [← hL]; simp
   dsimp only at hp ht hk had
   subst had
   have htl : Builtin.Str.tooLong total = false := by unfold Builtin.Str.tooLong; rw [sizeLine_eq]; simp; lia
   dsimp only
   rw [htl]
   simp only [Bool.false_eq_true, if_false]
   have hP : PiecesOk done (pieces, total, fast, known, false) := ⟨hp, ht, hk, rfl⟩
   have slow : ∀ s1 : Shared, ∀ known', (∀ c a, known'.lookup c = some a → ∃ d, a = some d ∧ signOf c = [d]) → Up s s1 → wpAny (model prog w) A.in1 (do
       let r ← Builtin.Str.tableLookup (.ref M) c
       match r with
       | .keep => pure (ForInStep.yield (⟨#[c]⟩ :: pieces, total + 1, false, known', false))
       | .drop => pure (ForInStep.yield (pieces, total, false, known', true))
       | .char d => pure (ForInStep.yield (⟨#[d]⟩ :: pieces, total + 1, false, known', false))
       | .text t => pure (ForInStep.yield (t :: pieces, total + t.length, false, known', false)))
       (fun r s'' => ∃ b', r = .yield b' ∧ Up s s'' ∧ PiecesOk (done ++ [c]) b') E s1 := by
     intro s1 known' hk' u1
     refine wpAny_bind (lookupT (isList_at hl fun o e => u1.keep _ o e) (by
       simp only [ring, List.mem_cons, List.not_mem_nil, or_false] at hring
       lia) hx fun s2 u2 => ?_)
     refine wpAny_pure ⟨_, rfl, u1.trans u2, pieces_add hP rfl ?_ hk'⟩
     rw [sW_length]
     rcases ring_sign hring with ⟨d, e, _⟩ | ⟨a, b, d, e⟩ <;> rw [e] <;> simp
   cases fast with
   | false => exact slow s' known hk u
   | true =>
     simp only [if_true]
     cases hlk : known.lookup c with
     | some a =>
       refine el_EA (hk c a hlk) ?_; intro d zz0 hd
       obtain rfl := zz0
       exact wpAny_bind (wpAny_pure (wpAny_pure ⟨_, rfl, u, pieces_add hP hd.symm (by lia) hk⟩))
     | none =>
       dsimp only
       refine wpAny_bind (lookupT (isList_at hl fun o e => u.keep _ o e) (by
         simp only [ring, List.mem_cons, List.not_mem_nil, or_false] at hring
         lia) hx fun s2 u2 => ?_)
       rcases ring_sign hring with ⟨d, e, h128⟩ | ⟨a, b, d, e⟩
       · have e1 : (if ((sW (signOf c)).length == 1 && (sW (signOf c)).cps.all fun x => decide (x < 128)) = true then some (sW (signOf c)).cps[0]? else none) = some (some d) := by
           rw [e]
           have : ((sW [d]).length == 1 && (sW [d]).cps.all fun x => decide (x < 128)) = true := by
             simp [sW, PySem.Str.length, h128]
           rw [if_pos this]
           rfl
         dsimp only
         rw [e1]
         exact wpAny_bind (wpAny_pure (wpAny_pure ⟨_, rfl, u.trans u2, pieces_add hP e.symm (by lia) (known_add hk e)⟩))
       · have e1 : (if ((sW (signOf c)).length == 1 && (sW (signOf c)).cps.all fun x => decide (x < 128)) = true then some (sW (signOf c)).cps[0]? else none) = none := by
           rw [e]
           rw [if_neg (by simp [sW, PySem.Str.length])]
         dsimp only
         rw [e1]
         refine wpAny_bind (wpAny_pure ?_)
         dsimp only
         refine wpAny_bind (wpAny_rule ?_)
         exact slow _ known hk (u.trans u2)
 · intro zzM43_149_0 s' zzM43_149_2
   obtain ⟨pieces, total, fast, known, ad⟩ := zzM43_149_0
   refine el_AAAA zzM43_149_2 ?_; clear zzM43_149_2; intro u hp ht hk had
   dsimp only at hp ht hk had ⊢
   have htl : Builtin.Str.tooLong total = false := by unfold Builtin.Str.tooLong; rw [sizeLine_eq]; simp; lia
   rw [htl]
   simp only [Bool.false_eq_true, if_false]
   have eT : (⟨pieces.reverse.foldl (fun acc p => acc ++ p.cps) #[]⟩ : PySem.Str) = sW (l.flatMap signOf) := by
     apply Str.ext'
     apply Array.toList_inj.mp
     rw [foldl_cps, hp]
     simp [sW]
   refine wpAny_bind (wpAny_mkStr ?_ ?_)
   · rw [eT]
     exact wpAny_pure ⟨_, rfl, h _ _ (u.trans (Up.toks _))⟩
   · rw [eT, sW_length, sizeLine_eq]
     have := ring_len l hr
     lia
end
end
section
variable {prog : Program} {w : World} {A : Around} {E : Value → Shared → Prop} {s : Shared} {env : Env}
theorem fieldS {value : Expr} {pos : Pos} {Q : Value → Shared → Prop} (h : wpAny (model prog w) A (eval value env) (fun v s₁ => ∃ x t, v = .str x t ∧ x.length ≤ sizeLine ∧ ∀ t' s₂, Up s₁ s₂ → Q (.str x t') s₂) E s) :
   wpAny (model prog w) A (eval (.FormattedValue value 115 none pos) env) Q E s := by
 refine wpAny_FormattedValue_s (wpAny_mono h (fun v s₁ ⟨x, t, e, hx, h₁⟩ => ?_) fun _ _ e => e)
 subst e
 refine habitSame_str (fun t' tk => ?_) hx
 exact formatField_str (fun t' tk => h₁ t' _ (Up.toks _)) hx
theorem js_start {v₁ v₂ : Expr} {rest : List Expr} {pos : Pos} {Q : Value → Shared → Prop} (h : Joins (model prog w) A E (evalEach (v₁ :: v₂ :: rest) env) (sW []) (fun out s₁ => out.length ≤ sizeLine ∧ Q (.str out s₁.toks) { s₁ with toks := s₁.toks + 1 }) s) :
 wpAny (model prog w) A (eval (.JoinedStr (v₁ :: v₂ :: rest) pos) env) Q E s := wpAny_JoinedStr h
theorem js_more {e : Expr} {rest : List Expr} {a : List Nat} {Q : Str → Shared → Prop} (b : List Nat)
   (h : wpAny (model prog w) A (eval e env) (fun v s₁ => ∃ y t, v = .str y t ∧ y = sW b ∧ (a ++ b).length ≤ 1000 ∧ Joins (model prog w) A E (evalEach rest env) (sW (a ++ b)) Q s₁) E s) : Joins (model prog w) A E (evalEach (e :: rest) env) (sW a) Q s := by
 show Joins (model prog w) A E (eval e env :: evalEach rest env) (sW a) Q s
 refine wpAny_mono h (fun v s₁ ⟨y, t, e, ey, hl, hr⟩ => ?_) fun _ _ e => e
 subst ey
 refine ⟨_, t, e, ?_, ?_⟩
 · rw [sW_append, sW_length, sizeLine_eq]; omega
 · rw [sW_append]; exact hr
theorem js_end {a : Str} {Q : Str → Shared → Prop} (h : Q a s) : Joins (model prog w) A E (evalEach [] env) a Q s := h
noncomputable def HMap (mg : Str → Option Value) (h : Heap) : Prop := ∃ M vs, mg (Str.ofString "_QUOPRI_HEADER_MAP") = some (.ref M) ∧ h.IsList M (List.toArray vs) ∧ ∀ c ∈ ring, ∃ tk, vs[c]? = some (.str (sW (signOf c)) tk)
theorem HMap.keeps {mg : Str → Option Value} {h h' : Heap} (x : HMap mg h) (k : Keep h h') : HMap mg h' :=
 el_EEAA x fun M vs e hp hc => ⟨M, vs, e, isList_at hp fun o e => k _ o e, hc⟩
noncomputable abbrev bytesOf (l : List Nat) (t : Tok) : Value := .bytes (List.toArray (l.map fun c => c.toUInt8)) t
theorem truthyB {l : List Nat} {t : Tok} {Q : Bool → Shared → Prop} (hz : l.length ≤ 1000) (h : ∀ s', Up s s' → Q (!l.isEmpty) s') : wpAny (model prog w) A (truthy (bytesOf l t)) Q E s := by
 have e : (List.toArray (l.map fun c => c.toUInt8)).size = l.length := by rw [List.size_toArray, List.length_map]
 refine PySem.W.truthy_bytes (by rw [e]; omega) ?_
 rw [e]
 have : ((l.length : Int) != 0) = !l.isEmpty := by cases l <;> simp; omega
 rw [this]
 exact h _ (Up.toks _)
end
section
variable {prog : Program} {w : World} {A : Around} {s : Shared} {P : Adr} {mg mb : Str → Option Value}
theorem c_hencode {l : List Nat} {t t1 : Tok} (hroom : A.depth + 1 < recursionLimit) (hh : A.handled = none) (W : Wd P mg mb s.heap) (hD : DefAtD s.heap P.hencode (stmtAt 19)) (hM : HMap mg s.heap) (hc : ∀ c ∈ l, c ∈ ring) (hl : l.length ≤ 3) :
   codeAny (model prog w) A (.call (.ref P.hencode) ⟨[bytesOf l t, .str (Str.ofString "q") t1], []⟩) (RetD RW (writtenOf l) s) s := by
 refine enterD (binds := [(Str.ofString "header_bytes", bytesOf l t), (Str.ofString "charset", .str (Str.ofString "q") t1)]) (by omega) hD W.lim (fun s pm cd doc T ot dv n e h => BindsTo.of_defaults rfl e h rfl rfl) (by decide) (fun x hx => by rcases List.mem_cons.mp hx with rfl | hx; exact (by trivial); rw [List.mem_singleton.mp hx]; exact (by trivial)) ?_ (fun _ _ _ _ _ => (by trivial)) (fun _ _ _ => (by trivial)) rfl rfl rfl
 intro L cd s₁ n₁ hL F u
 refine el_EAA (F.lower) ?_; intro n hle low F
 have W₁ := W.up u
 refine wpAny_execs_cons ?_
 by_cases hn : l = []
 · exists If_t ?_
   exists wpAny_isTrue_Not ?_
   exists isTrue_v (by trivial) ?_
   exists n_loc F (by trivial) (by trivial) (by trivial) (by trivial) ?_
   exists truthyB (by omega) fun s₂ u₂ => ?_
   exists ⟨by simp [hn], ?_⟩
   refine wpAny_execs_cons ?_
   exists wpAny_Return_some ?_
   exists wpAny_Constant_str ?_
   refine retD_ (R := RW) (F.pass (u₂.trans (Up.toks _))) (u.trans (u₂.trans (Up.toks _))).st ?_
   unfold writtenOf
   rw [if_pos hn]
   exact ⟨_, congrArg (fun x => Value.str x _) ofString_empty⟩
 · have hl1 : 1 ≤ l.length := by cases l with | nil => exact absurd rfl hn | cons _ _ => simp
   have hc256 : ∀ c ∈ l, c < 256 := fun c h => by
     have := hc c h
     simp only [ring, List.mem_cons, List.not_mem_nil, or_false] at this
     omega
   exists If_f ?_
   exists wpAny_isTrue_Not ?_
   exists isTrue_v (by trivial) ?_
   exists n_loc F (by trivial) (by trivial) (by trivial) (by trivial) ?_
   exists truthyB (by omega) fun s₂ u₂ => ?_
   exists ⟨by simp [hn], ?_⟩
   refine wpAny_execs_nil ?_
   have F₂ := F.pass u₂
   have W₂ := W₁.up u₂
   refine wpAny_execs_cons ?_
   exists wpAny_Assign_Name ?_ (by trivial)
   exists meth1 (by trivial) (by trivial) (by trivial) PySem.F.plainAttrs_str PySem.F.slot_str_translate PySem.F.type_str_translate ?_
   exists meth1 ab_name (by trivial) (by trivial) PySem.W.FB.plainAttrs_bytes PySem.W.FB.slot_bytes_decode PySem.W.FB.type_bytes_decode ?_
   exists n_loc F₂ (by trivial) (by trivial) (by trivial) (by trivial) ?_
   exists ⟨PySem.W.typeIs_bytes _ _ _, (fun _ e => nomatch e), ?_⟩
   exists wpAny_Constant_str ?_
   exists from_ (Up.toks _ : Up s₂ _) fun s₃ u₃ => ?_
   exists decodeW hl1 hl hc256 fun t₄ s₄ u₄ => ?_
   have u₂₄ := u₃.trans u₄
   have F₄ := F₂.pass u₂₄
   have W₄ := W₂.up u₂₄
   refine el_EEAA (hM.keeps (u.trans (u₂.trans u₂₄)).keep) ?_; intro M vs hgM hpl hvs
   exists ⟨typeIs_str _ _ _, str_none, ?_⟩
   exists n_gl W₄ (by trivial) (by trivial) (by trivial) (by trivial) hgM ?_
   exists translateW hpl hn (by omega) hc (fun c h => hvs c (hc c h)) fun t₅ s₅ u₅ => ?_
   have F₅ := F₄.pass u₅
   exists st_loc F₅ (by trivial) (by trivial) (by trivial) fun s₆ F₆ hs₆ sm₆ => ?_
   refine wpAny_execs_cons ?_
   exists wpAny_Return_some ?_
   have hsl := signs_len l
   have hb : (sW (l.flatMap signOf)).length ≤ 9 := by rw [sW_length]; omega
   exists js_start ?_
   exists js_more [61, 63] ?_
   exists wpAny_Constant_str ?_
   have u₇ : Up s₆ { s₆ with toks := s₆.toks + 1 } := Up.toks _
   refine ⟨_, _, rfl, by decide +kernel, (by decide), ?_⟩
   exists js_more [113] ?_
   exists fieldS ?_
   exists n_loc (F₆.pass u₇) (by trivial) (by trivial) (by trivial) (by trivial) ?_
   refine ⟨_, _, rfl, by decide +kernel, fun t₈ s₈ u₈ => ?_⟩
   refine ⟨_, _, rfl, by decide +kernel, (by decide), ?_⟩
   exists js_more [63, 113, 63] ?_
   exists wpAny_Constant_str ?_
   have u₉ : Up s₈ { s₈ with toks := s₈.toks + 1 } := Up.toks _
   refine ⟨_, _, rfl, by decide +kernel, (by decide), ?_⟩
   exists js_more (l.flatMap signOf) ?_
   exists fieldS ?_
   have F₉ := (F₆.pass u₇).pass (u₈.trans u₉)
   exists n_loc F₉ (by trivial) (by trivial) (by trivial) (by trivial) ?_
   refine ⟨_, _, rfl, (by rw [sizeLine_eq]; omega), fun t₁ s₁₀ u₁₀ => ?_⟩
   refine ⟨_, _, rfl, rfl, (by rw [List.length_append]; simp only [List.length_append, List.length_cons, List.length_nil]; omega), ?_⟩
   exists js_more [63, 61] ?_
   exists wpAny_Constant_str ?_
   have u₁₁ : Up s₁₀ { s₁₀ with toks := s₁₀.toks + 1 } := Up.toks _
   refine ⟨_, _, rfl, by decide +kernel, (by simp only [List.length_append, List.length_cons, List.length_nil]; omega), ?_⟩
   exists js_end ?_
   refine ⟨(by rw [sW_length, sizeLine_eq]; simp only [List.length_append, List.length_cons, List.length_nil]; omega), ?_⟩
   have uu : Up s₆ { s₁₀ with toks := s₁₀.toks + 1 + 1 } := u₇.trans (u₈.trans (u₉.trans (u₁₀.trans (u₁₁.trans (Up.toks _)))))
   refine retD_ (R := RW) (F₆.pass uu) (u.st.trans (u₂.st.trans (u₂₄.st.trans (u₅.st.trans (sm₆.trans uu.st))))) ?_
   unfold writtenOf
   rw [if_neg hn]
   exact ⟨_, rfl⟩
end
noncomputable def drive : Nat → Sre.M → Option Sre.M
 | 0, _ => none
 | n + 1, m => if (m.runFor 4).outcome.isSome then some (m.runFor 4) else drive n (m.runFor 4)
section
variable {M : Model} {A : Around} {E : Value → Shared → Prop} {s : Shared}
theorem drive_ok {Q : Sre.M → Shared → Prop} : ∀ (k n : Nat) (m m' : Sre.M), k ≤ n → drive k m = some m' → Q m' s → wpAny M A (Builtin.Re.reDrive n m) Q E s
 | 0, _, _, _, _, e, _ => nomatch e
 | k + 1, 0, _, _, h, _, _ => absurd h (by lia)
 | k + 1, n + 1, m, m', h, e, hq => by
   unfold drive at e
   unfold Builtin.Re.reDrive
   show wpAny M A (if (m.runFor 4).outcome.isSome then pure (m.runFor 4) else (do rule "sre.turn"; Builtin.Re.reDrive n (m.runFor 4))) Q E s
   cases hc : (m.runFor 4).outcome.isSome with
   | true =>
     rw [hc] at e
     simp only [if_true] at e ⊢
     cases e
     exact wpAny_pure hq
   | false =>
     rw [hc] at e
     simp only [Bool.false_eq_true, if_false] at e ⊢
     exact wpAny_bind (wpAny_rule (drive_ok k n _ m' (by lia) e hq))
theorem rules_ok {m : Sre.M} {Q : PUnit → Shared → Prop} (h : Q ⟨⟩ s) : ∀ (l : List Nat), wpAny M A (forIn l PUnit.unit fun i _ => (do
   if m.seen.has i then rule (Sre.names.getD i "")
   pure (ForInStep.yield PUnit.unit) : Sem (ForInStep PUnit))) Q E s
 | [] => by rw [List.forIn_nil]; exact wpAny_pure h
 | i :: l => by
   rw [List.forIn_cons]
   refine wpAny_bind ?_
   cases m.seen.has i with
   | true => exact wpAny_bind (wpAny_rule (wpAny_pure (rules_ok h l)))
   | false => exact wpAny_pure (rules_ok h l)
end
noncomputable def patCode : Array Nat := #[14, 8, 1, 3, 3, 1, 1, 61, 0, 16, 61, 24, 16, 2, 2, 13, 11, 9, 0, 67043328, 126, 126, 0, 0, 0, 0, 0, 1, 1]
noncomputable def found (text : List Nat) (start : Nat) (must : Bool) : Option (Bool × Nat × Nat × Int) :=
 (drive 60 (Sre.forSearch patCode text.toArray 0 start text.length must)).bind fun m => match m.outcome with
   | some .matched => some (true, m.start, m.handed, m.lastindex)
   | some .failed => some (false, 0, 0, 0)
   | _ => none
section
variable {M : Model} {A : Around} {E : Value → Shared → Prop} {s : Shared}
theorem toEnd_ok {m m' : Sre.M} {Q : Option Sre.M → Shared → Prop} (h : drive 60 m = some m') (hq : match m'.outcome with | some .matched => Q (some m') s | some .failed => Q none s | _ => False) : wpAny M A (Builtin.Re.reRunToEnd m) Q E s := by
 unfold Builtin.Re.reRunToEnd
 refine wpAny_bind (drive_ok 60 _ m m' (by decide) h ?_)
 refine wpAny_bind (rules_ok ?_ _)
 cases ho : m'.outcome with
 | none => rw [ho] at hq; exact hq.elim
 | some o =>
   rw [ho] at hq
   cases o with
   | matched => exact wpAny_pure hq
   | failed => exact wpAny_pure hq
   | stuck why => exact hq.elim
theorem next_ok {t : Builtin.Re.ReTarget} {x : List Nat} {start : Nat} {must : Bool} {r : Bool × Nat × Nat × Int} {Q : Option Sre.M → Shared → Prop} (hcode : t.code = patCode) (htext : t.text = x.toArray) (hg : t.groups = 0) (hlim : t.lim = x.length)
   (h : found x start must = some r) (hy : r.1 = true → ∀ m : Sre.M, m.start = r.2.1 → m.handed = r.2.2.1 → m.lastindex = r.2.2.2 → Q (some m) s) (hn : r.1 = false → Q none s) : wpAny M A (Builtin.Re.reNextFound t start must) Q E s := by
 unfold Builtin.Re.reNextFound
 rw [hcode, htext, hg, hlim]
 unfold found at h
 cases hd : drive 60 (Sre.forSearch patCode x.toArray 0 start x.length must) with
 | none => rw [hd] at h; cases h
 | some m' =>
   rw [hd] at h
   refine toEnd_ok hd ?_
   have h' : (match m'.outcome with
     | some .matched => some (true, m'.start, m'.handed, m'.lastindex)
     | some .failed => some (false, 0, 0, 0)
     | _ => none) = some r := h
   cases ho : m'.outcome with
   | none => rw [ho] at h'; cases h'
   | some o =>
     rw [ho] at h'
     cases o with
     | matched => cases h'; exact hy rfl m' rfl rfl rfl
     | failed => cases h'; exact hn rfl
     | stuck why => cases h'
end
noncomputable def hexOf (c : Nat) : Nat := figs.idxOf c
noncomputable def unqOf : List Nat → List Nat
 | [_, a, b] => [16 * hexOf a + hexOf b]
 | l => l
noncomputable def subWalk : Nat → List Nat → Nat → Bool → Option (List (List Nat))
 | 0, _, _, _ => none
 | n + 1, x, start, must => match found x start must with
   | some (true, b, e, li) => if li = -1 ∧ b < e ∧ e ≤ x.length ∧ start ≤ b ∧ (x.drop b).take (e - b) ∈ [[61, 51, 68], [61, 69, 57], [61, 53, 70]] then
       (subWalk n x e (e == b)).map fun r => (if start < b then [(x.drop start).take (b - start)] else []) ++ [unqOf ((x.drop b).take (e - b))] ++ r else none
   | some (false, _) => some (if start < x.length then [x.drop start] else [])
   | none => none
noncomputable def blanks (l : List Nat) : List Nat := l.map fun c => if c = 95 then 32 else c
noncomputable def wordsUpTo : Nat → List (List Nat)
 | 0 => [[]]
 | n + 1 => [] :: ring.flatMap fun c => (wordsUpTo n).map (c :: ·)
noncomputable def subOk (l : List Nat) : Bool := decide ((subWalk 5 (blanks (l.flatMap signOf)) 0 false).map List.flatten = some l)
theorem sub_1 : ((wordsUpTo 3).take 65).all subOk = true := by decide +kernel
theorem sub_2 : (((wordsUpTo 3).drop 65).take 65).all subOk = true := by decide +kernel
theorem sub_3 : ((((wordsUpTo 3).drop 65).drop 65).take 65).all subOk = true := by decide +kernel
theorem sub_4 : ((((wordsUpTo 3).drop 65).drop 65).drop 65).all subOk = true := by decide +kernel
theorem all_cut {n : Nat} {L : List (List Nat)} (h1 : (L.take n).all subOk = true) (h2 : (L.drop n).all subOk = true) : L.all subOk = true := by
 rw [← List.take_append_drop n L, List.all_append, h1, h2]; rfl
theorem sub_all : ∀ l ∈ wordsUpTo 3, (subWalk 5 (blanks (l.flatMap signOf)) 0 false).map List.flatten = some l := fun l hl =>
 of_decide_eq_true (List.all_eq_true.mp (all_cut sub_1 (all_cut sub_2 (all_cut sub_3 sub_4))) l hl)
theorem wordsUpTo_mem : ∀ (n : Nat) (l : List Nat), l.length ≤ n → (∀ c ∈ l, c ∈ ring) → l ∈ wordsUpTo n
 | 0, [], _, _ => .head _
 | 0, _ :: _, h, _ => absurd h (by simp)
 | n + 1, [], _, _ => .head _
 | n + 1, c :: l, h, hc => by
   refine .tail _ (List.mem_flatMap.mpr ⟨c, hc c (.head _), List.mem_map.mpr ⟨l, wordsUpTo_mem n l (by simpa using h) (fun d hd => hc d (.tail _ hd)), rfl⟩⟩)
structure Hid2 (p : Prop) : Prop where
 out : p
theorem hex_gives {a b : Nat} {u v : Tok} (n : Int) (h : (a, b, n) ∈ ([(51, 68, 61), (69, 57, 233), (53, 70, 95)] : List (Nat × Nat × Int))) : Gives (Builtin.«int.__new__» ⟨[.type "int", .str (sW [a, b]) u, .int 16 v], []⟩) (.int n) := by
 have key : ∀ (x : PySem.Str) (n : Int), x.length ≤ 2 → (int_private% "readNumeral") 0 16 (List.takeWhile (fun x => x != 0) (if (x.cps.all fun c => decide (c < 128)) = true then x.cps.toList else Unicode.numberText x.cps.toList)) = (int_private% "Numeral.value") n →
     ((List.takeWhile (fun x => x != 0) (if (x.cps.all fun c => decide (c < 128)) = true then x.cps.toList else Unicode.numberText x.cps.toList)).length == (if (x.cps.all fun c => decide (c < 128)) = true then x.cps.toList else Unicode.numberText x.cps.toList).length) = true →
     (List.takeWhile (fun x => x != 0) (if (x.cps.all fun c => decide (c < 128)) = true then x.cps.toList else Unicode.numberText x.cps.toList)).length ≤ 640 →
     Gives (Builtin.«int.__new__» ⟨[.type "int", .str x u, .int 16 v], []⟩) (.int n) := by
   intro x n hx hr hl h6
   exact .of_wp fun M A E s Q h => by
     obtain ⟨hp, g, d, tk, os⟩ := s
     have f1 := F.conv_sub_int
     have f2 := F.madeHere_int
     have hk : Hid2 _ := Hid2.mk (And.intro hr (And.intro hl h6))
     clear hr hl h6
     repeat (any_goals (first | assumption | ((exists wpAny_ite_true (decide_eq_true hk.out.2.2) ?_)) | wp_step))
     all_goals (try (rw [show Int.toNat 16 = 16 from rfl, hk.out.1]))
     all_goals (try dsimp only)
     repeat (any_goals (first | assumption | ((exists wpAny_ite_true (decide_eq_true hk.out.2.1) ?_)) | wp_step))
     all_goals first | exact ⟨_, rfl, h⟩ | trace_state
 simp only [List.mem_cons, Prod.mk.injEq, List.not_mem_nil, or_false] at h
 rcases h with ⟨rfl, rfl, rfl⟩ | ⟨rfl, rfl, rfl⟩ | ⟨rfl, rfl, rfl⟩
 · exact key _ _ (by decide) (by kernel_rfl) (by decide +kernel) (by decide +kernel)
 · exact key _ _ (by decide) (by kernel_rfl) (by decide +kernel) (by decide +kernel)
 · exact key _ _ (by decide) (by kernel_rfl) (by decide +kernel) (by decide +kernel)
noncomputable def picks (l : List Nat) (lo hi : Int) : List Nat := (slicePicked (sW l) (some (lo, 0)) (some (hi, 0)) none).filterMap ((sW l).cps[·]?)
noncomputable def CutIs (l r : List Nat) (lo hi : Int) : Prop := picks l lo hi = r ∧ (((slicePicked (sW l) (some (lo, 0)) (some (hi, 0)) none).length == (sW l).length) = true → l = r)
noncomputable def cutIsDec (l r : List Nat) (lo hi : Int) : Decidable (CutIs l r lo hi) := by unfold CutIs; exact inferInstance
section
variable {prog : Program} {w : World} {A : Around} {E : Value → Shared → Prop} {s : Shared} {env : Env}
theorem cutS {value : Expr} {lower upper : Option Expr} {p pos : Pos} {Q : Value → Shared → Prop} (ht : ∀ o r, letTemporaryGo value o r = pure ())
   (h : wpAny (model prog w) A (eval value env) (fun o s₁ => wpAny (model prog w) A (evalPart lower env) (fun vl s₂ => wpAny (model prog w) A (evalPart upper env) (fun vu s₃ =>
     ∃ l r t lo t1 hi t2, o = .str (sW l) t ∧ vl = .int lo t1 ∧ vu = .int hi t2 ∧ CutIs l r lo hi ∧ r.length ≤ 1000 ∧ ∀ t' s', Up s₃ s' → Q (.str (sW r) t') s') E s₂) E s₁) E s) :
   wpAny (model prog w) A (eval (.Subscript value (.Slice lower upper none p) pos) env) Q E s := by
 refine wpAny_Subscript_str_slice (wpAny_mono h (fun o s₁ h₁ => wpAny_mono h₁ (fun vl s₂ h₂ => wpAny_mono h₂ (fun vu s₃ h₃ => ?_) fun _ _ e => e) fun _ _ e => e) fun _ _ e => e) ht
 refine el_EEEEEEEAAAAA h₃ ?_; try clear h₃; intro l r t lo t1 hi t2 zz0 zz1 zz2 zz3 hr hQ
 obtain rfl := zz0
 obtain rfl := zz1
 obtain rfl := zz2
 refine el_A zz3 ?_; clear zz3; intro hp hw
 refine ⟨sW l, t, some (lo, t1), some (hi, t2), rfl, rfl, rfl, ?_⟩
 have e1 : slicePicked (sW l) (some (lo, t1)) (some (hi, t2)) none = slicePicked (sW l) (some (lo, 0)) (some (hi, 0)) none := rfl
 unfold sliceMade
 rw [e1]
 split
 · rename_i hc
   have : l = r := hw (by simp only [Bool.and_eq_true] at hc; exact hc.2)
   subst this
   exact hQ t _ (Up.push _ _)
 · refine ⟨?_, ?_⟩
   · show (List.toArray (picks l lo hi)).size ≤ _
     rw [hp, List.size_toArray, sizeLine_eq]; lia
   · show Q (.str ⟨List.toArray (picks l lo hi)⟩ _) _
     rw [hp]
     exact hQ _ _ ((Up.push _ _).trans (Up.toks _))
theorem call_hex {a b : Nat} {n : Int} {u v : Tok} {Q : Value → Shared → Prop} (hm : (a, b, n) ∈ ([(51, 68, 61), (69, 57, 233), (53, 70, 95)] : List (Nat × Nat × Int)))
   (h : Q (.int n s.toks) { s with toks := s.toks + 1 }) : wpAny (model prog w) A (call (.type "int") [.str (sW [a, b]) u, .int 16 v]) Q E s :=
 callType_new F.called_int F.newNe_int (by kernel_rfl) (by kernel_rfl) (fun obj => by unfold argsOk; rw [signature?_of (id := "object.__init__") (n := ['_', '_', 't', 'i', 'n', 'i', '_', '_']) (o := ['t', 'c', 'e', 'j', 'b', 'o']) (by kernel_rfl) PySem.F.owner_object]; kernel_rfl) F.entry_int_new (hex_gives n hm).meets (show (Made.int n).post _ s from ⟨rfl, h⟩)
end
section
variable {prog : Program} {w : World} {A : Around} {s : Shared} {P : Adr} {mg mb : Str → Option Value}
noncomputable def marks3 : List (List Nat) := [[61, 51, 68], [61, 69, 57], [61, 53, 70]]
theorem c_unquote {x : List Nat} {t : Tok} (hroom : A.depth < recursionLimit) (W : Wd P mg mb s.heap) (hx : x ∈ marks3) :
   codeAny (model prog w) A (.call (.ref P.unquote) ⟨[.str (sW x) t], []⟩) (RetD RW (unqOf x) s) s := by
 have hx' : ∃ a b n, x = [61, a, b] ∧ (a, b, n) ∈ ([(51, 68, 61), (69, 57, 233), (53, 70, 95)] : List (Nat × Nat × Int)) ∧ unqOf x = [n.toNat] ∧ CutIs x [a, b] 1 3 ∧ (decide (n < 0) || decide (n > 0x10FFFF)) = false := by
   simp only [marks3, List.mem_cons, List.not_mem_nil, or_false] at hx
   rcases hx with rfl | rfl | rfl
   · exact ⟨51, 68, 61, rfl, by decide, by decide +kernel, @of_decide_eq_true _ (cutIsDec _ _ _ _) (by decide +kernel), by decide⟩
   · exact ⟨69, 57, 233, rfl, by decide, by decide +kernel, @of_decide_eq_true _ (cutIsDec _ _ _ _) (by decide +kernel), by decide⟩
   · exact ⟨53, 70, 95, rfl, by decide, by decide +kernel, @of_decide_eq_true _ (cutIsDec _ _ _ _) (by decide +kernel), by decide⟩
 refine el_EEEAAAA hx' ?_; try clear hx'; intro a b n ex hm hu hcut hn
 refine enterZ (binds := [(Str.ofString "s", .str (sW x) t)]) hroom W.dunq W.lim (by intros; rfl) (by rfl) (by rfl) ?_ rfl rfl rfl
 intro L cd s₁ n₁ F u
 have W₁ := W.up u
 refine wpAny_execs_cons ?_
 exists wpAny_Return_some ?_
 exists wpAny_Call_NameR ?_
 exists n_bi W₁ (by trivial) (by trivial) (by trivial) (by trivial) (by trivial) (by decide) (W.no "chr" (by decide)) PyProof.Rows.bootS_chr ?_
 exists cw_bi (by trivial) ?_
 exists sp_more (by trivial) ?_
 exists wpAny_Call_NameR ?_
 exists n_bi W₁ (by trivial) (by trivial) (by trivial) (by trivial) (by trivial) (by decide) (W.no "int" (by decide)) (show bootBuiltins "int" = some (.type "int") by decide +kernel) ?_
 exists cw_type (by trivial) ?_
 exists sp_more (by trivial) ?_
 exists cutS (fun _ _ => (by trivial)) ?_
 exists n_loc F (by trivial) (by trivial) (by trivial) (by trivial) ?_
 exists evalPart_some_step ?_
 exists wpAny_Constant_int ?_
 exists evalPart_some_step ?_
 exists wpAny_Constant_int ?_
 refine ⟨_, [a, b], _, _, _, _, _, rfl, rfl, rfl, hcut, by simp, fun t' s₂ u₂ => ?_⟩
 exists sp_more (by trivial) ?_
 exists wpAny_Constant_int ?_
 exists spliced_none ?_
 exists call_hex hm ?_
 exists spliced_none ?_
 exists PySem.P.chr_of_int hn ?_
 have fin : ∀ t' (s' : Shared), Up s₁ s' → RetD RW (unqOf x) s (.ok (.ret (.str ⟨#[n.toNat]⟩ t'))) s' := by
   intro t' s' us
   refine retD_ (R := RW) (F.pass us) (u.trans us).st ?_
   rw [hu]
   exact ⟨_, rfl⟩
 refine fin _ _ ⟨?_, ?_, ?_⟩
 · exact ⟨u₂.st.gens, u₂.st.drawn, u₂.st.os⟩
 · exact u₂.keep
 · exact u₂.size
end
theorem plainAttrs_match : PlainAttrs "re.Match" :=
 ⟨⟨"object.__getattribute__", by rw [typeLookup_type, builtinLookup_eq_fast]; kernel_rfl, by decide +kernel⟩, by rw [typeLookup_type, builtinLookup_eq_fast]; kernel_rfl⟩
theorem slot_match_group : Slot "re.Match" "group" "re.Match.group" :=
 .of (owner := "re.Match") (n := "group") (by rw [typeLookup_type, builtinLookup_eq_fast]; kernel_rfl) (by decide +kernel) (by decide +kernel) (by decide +kernel)
   (by first | exact .inl (by decide +kernel) | exact .inr (by decide +kernel)) (by rw [isSubtype_type]; kernel_rfl)
theorem type_match_group : typeOf (.builtin "re.Match.group") = pure (.type "method_descriptor") := by show builtinType _ = _; rw [builtinType_eq_fast]; kernel_rfl
theorem entry_match_group : entryFor table "re.Match.group" = some Builtin.«re.Match.group» := entryFor_of_tree (by kernel_rfl)
theorem plainAttrs_pattern : PlainAttrs "re.Pattern" :=
 ⟨⟨"object.__getattribute__", by rw [typeLookup_type, builtinLookup_eq_fast]; kernel_rfl, by decide +kernel⟩, by rw [typeLookup_type, builtinLookup_eq_fast]; kernel_rfl⟩
theorem slot_pattern_sub : Slot "re.Pattern" "sub" "re.Pattern.sub" :=
 .of (owner := "re.Pattern") (n := "sub") (by rw [typeLookup_type, builtinLookup_eq_fast]; kernel_rfl) (by decide +kernel) (by decide +kernel) (by decide +kernel)
   (by first | exact .inl (by decide +kernel) | exact .inr (by decide +kernel)) (by rw [isSubtype_type]; kernel_rfl)
theorem type_pattern_sub : typeOf (.builtin "re.Pattern.sub") = pure (.type "method_descriptor") := by show builtinType _ = _; rw [builtinType_eq_fast]; kernel_rfl
theorem entry_pattern_sub : entryFor table "re.Pattern.sub" = some Builtin.«re.Pattern.sub» := entryFor_of_tree (by kernel_rfl)
theorem entry_pattern_loop : entryFor table "re.Pattern.sub.loop" = some Builtin.«re.Pattern.sub.loop» := entryFor_of_tree (by kernel_rfl)
theorem args_match_group (a b : Value) : argsOk "re.Match.group" ⟨[a, b], []⟩ := by unfold argsOk; kernel_rfl
theorem args_pattern_sub (a b c : Value) : argsOk "re.Pattern.sub" ⟨[a, b, c], []⟩ := by unfold argsOk; kernel_rfl
theorem args_pattern_loop (l : List Value) : argsOk "re.Pattern.sub.loop" ⟨l, []⟩ := by unfold argsOk; kernel_rfl
noncomputable def IsMatch (h : Heap) (a : Addr) (x : List Nat) (b e : Nat) : Prop := ∃ o t pat p l li T oT n, h.get? a = some o ∧ o.cls = .type "re.Match" ∧ o.dict = none ∧ o.data = .fields #[.str (sW x) t, pat, p, l, li, .ref T] ∧
 h.get? T = some oT ∧ oT.data = .seq #[.int (b : Int) 0, .int (e : Int) 0] n
theorem IsMatch.keeps {h h' : Heap} {a : Addr} {x : List Nat} {b e : Nat} (m : IsMatch h a x b e) (k : Keep h h') : IsMatch h' a x b e :=
 el_EEEEEEEEEAAAAA m fun o t pat p l li T oT n h1 h2 h3 h4 h5 h6 => ⟨o, t, pat, p, l, li, T, oT, n, k _ _ h1, h2, h3, h4, k _ _ h5, h6⟩
section
variable {prog : Program} {w : World} {A : Around} {E : Value → Shared → Prop} {s : Shared}
theorem groupW {a : Addr} {x : List Nat} {b e : Nat} {u : Tok} {Q : Value → Shared → Prop} (hm : IsMatch s.heap a x b e) (hx : x.length ≤ 1000) (h : ∀ t' s', Up s s' → Q (.str (sW ((x.drop b).take (e - b))) t') s') :
   wpAny (model prog w) A (call (.builtin "re.Match.group") [.ref a, .int 0 u]) Q E s := by
 refine el_EEEEEEEEEAAAAA hm ?_; try clear hm; intro o t pat p l li T oT n h1 h2 h3 h4 h5 h6
 refine wpAny_call_entry slot_match_group ⟨o, h1, h2⟩ entry_match_group ?_ (args_match_group _ _)
 unfold Builtin.«re.Match.group»
 refine wpAny_bind (wpAny_of_eq (a := ()) rfl ?_)
 dsimp only
 unfold Builtin.Re.reFound
 refine wpAny_bind (wpAny_bind (wpAny_fieldsOf h1 h4 ?_))
 unfold Builtin.Re.reRawItems
 refine wpAny_bind (wpAny_bind (wpAny_seqItems h5 h6 ?_))
 refine wpAny_pure (wpAny_pure ?_)
 try dsimp only
 rw [show Array.map Builtin.Re.reRawOf ((some #[Value.int (b : Int) 0, Value.int (e : Int) 0]).getD #[]) = #[(b : Int), (e : Int)] from by kernel_rfl]
 refine wpAny_bind (wpAny_of_eq (a := 0) (by kernel_rfl) ?_)
 refine wpAny_bind ?_
 show wpAny _ _ (if (decide ((b : Int) < 0) || decide ((e : Int) < 0)) = true then pure Value.none else (do
   let r ← Builtin.Re.reTextOf (.str (sW x) t)
   Builtin.Re.reSlice r.1 r.2 (b : Int).toNat (e : Int).toNat)) _ _ _
 have hneg : (decide ((b : Int) < 0) || decide ((e : Int) < 0)) = false := by simp
 rw [hneg]
 simp only [Bool.false_eq_true, if_false]
 refine wpAny_bind (wpAny_of_eq (a := ((sW x).cps, 0)) rfl ?_)
 show wpAny _ _ (mkStr ⟨x.toArray.extract b e⟩) _ _ _
 have ee : (⟨x.toArray.extract b e⟩ : PySem.Str) = sW ((x.drop b).take (e - b)) := by
   show (⟨_⟩ : PySem.Str) = ⟨_⟩
   rw [List.extract_toArray]
 rw [ee]
 refine wpAny_mkStr ?_ ?_
 · exact wpAny_pure ⟨_, rfl, h _ _ (Up.toks _)⟩
 · rw [sW_length, sizeLine_eq, List.length_take, List.length_drop]; lia
end
section
variable {prog : Program} {w : World} {A : Around} {s : Shared} {P : Adr} {mg mb : Str → Option Value}
theorem c_unqm {a : Addr} {x : List Nat} {b e : Nat} (hroom : A.depth + 1 < recursionLimit) (W : Wd P mg mb s.heap) (hm : IsMatch s.heap a x b e) (hx : x.length ≤ 1000) (h3 : (x.drop b).take (e - b) ∈ marks3) :
   codeAny (model prog w) A (.call (.ref P.unqm) ⟨[.ref a], []⟩) (RetD RW (unqOf ((x.drop b).take (e - b))) s) s := by
 refine enterZ (binds := [(Str.ofString "match", .ref a)]) (by lia) W.dunqm W.lim (by intros; rfl) (by rfl) (by rfl) ?_ rfl rfl rfl
 intro L cd s₁ n₁ F u
 have W₁ := W.up u
 have hm₁ := hm.keeps u.keep
 refine wpAny_execs_cons ?_
 exists wpAny_Assign_Name ?_ (by trivial)
 exists meth1 ab_name (by trivial) (by trivial) plainAttrs_match slot_match_group type_match_group ?_
 exists n_loc F (by trivial) (by trivial) (by trivial) (by trivial) ?_
 refine el_EEEEEEEEEAAA (id hm₁) ?_; intro o t pat p l li T oT n h1 h2 hd _
 refine ⟨⟨o, h1, h2⟩, fun _ ea => by cases ea; exact ⟨o, h1, hd⟩, ?_⟩
 exists wpAny_Constant_int ?_
 exists groupW (hm₁.keeps (Keep.refl _)) hx fun t₂ s₂ u₂ => ?_
 have u₂' : Up s₁ s₂ := (Up.toks _).trans u₂
 exists st_loc (F.pass u₂') (by trivial) (by trivial) (by trivial) fun s₃ F₃ hs₃ sm₃ => ?_
 have W₃ := W.keeps F₃.base
 refine wpAny_execs_cons ?_
 exists wpAny_Return_some ?_
 exists wpAny_Call_NameR ?_
 exists n_gl W₃ (by trivial) (by trivial) (by trivial) (by trivial) W₃.gunq ?_
 exists cw_def (by trivial) ?_
 exists sp_more (by trivial) ?_
 exists n_loc F₃ (by trivial) (by trivial) (by trivial) upd_eq ?_
 exists spliced_none ?_
 exists ⟨W₃.dunq.fn, ?_⟩
 exists call_ret (c_unquote (room0 hroom) W₃ h3) fun v s₄ u₄ hv => ?_
 refine retD_ (R := RW) (F₃.pass u₄) (u.st.trans (u₂'.st.trans (sm₃.trans u₄.st))) ?_
 exact hv
end
theorem enterT {prog : Program} {w : World} {A : Around} {s : Shared} {st : Stmt} {a : Addr} {args : List Value} {binds : List (Str × Value)} {R : Result → Shared → Prop} (hroom : A.depth < recursionLimit) (ho : DefAt s.heap a st) (hlim : s.heap.NoLimit)
   (hbind : ∀ (s : Shared) pm cd doc, BindsTo s (docDef (nmOf st) (psOf st) (bdOf st) (scOf st) pm cd doc) ⟨args, []⟩ binds)
   (hcell : ∀ x ∈ (scOf st).names, x.2 ≠ .cell) (hloc : ∀ x ∈ binds, (scOf st).names.lookup x.1 = some .local)
   (h : ∀ L cd s₁ n, L = s.heap.objs.size → Fz s.heap (envOfC (nmOf st) (scOf st) L a cd) n s₁.heap s₁.heap (fun x => binds.reverse.lookup x) → Up s s₁ → s₁.toks = s.toks + binds.length →
     wpAny (model prog w) (A.deeper (envOfC (nmOf st) (scOf st) L a cd)) (execs (bdOf st) (envOfC (nmOf st) (scOf st) L a cd))
       (fun f s' => R (.ok (.ret (match f with | .ret v => v | _ => .none))) s') (fun _ _ => False) s₁)
   (henv : ∀ L pm cd doc, callEnv (docDef (nmOf st) (psOf st) (bdOf st) (scOf st) pm cd doc) L a = envOfC (nmOf st) (scOf st) L a cd)
   (hnc : ∀ L cd x, (envOfC (nmOf st) (scOf st) L a cd).cells.lookup x = none)
   (hco : (scOf st).isCoroutine = false) (hgen : (scOf st).isGenerator = false) (hk : (scOf st).kind = .function) :
   codeAny (model prog w) A (.call (.ref a) ⟨args, []⟩) R s := by
 refine el_EEEEAA ho ?_; try clear ho; intro o pm cd doc e hd hc
 refine codeAny_call_def (fd := docDef (nmOf st) (psOf st) (bdOf st) (scOf st) pm cd doc) hroom e hd hlim hc rfl (hbind s pm cd doc) hcell hloc (fun h₀ hns hkp => ?_) hco hgen hk
 rw [henv]
 have hlt := hns.lt
 refine wpAny_mono (h s.heap.objs.size cd { s with heap := h₀, toks := s.toks + binds.length } h₀.objs.size rfl ⟨hkp, Nat.le_refl _, hlt, Nat.le_refl _, ⟨_, hns, fun _ _ => rfl⟩, fun x c hcx => ?_, fun x y c e1 e2 => ?_, KeepOn.refl _ _⟩ ⟨.of _ _, hkp, Nat.le_of_lt hlt⟩ rfl) (fun _ _ x => x) fun _ _ x => x.elim
 · rw [hnc] at hcx; cases hcx
 · rw [hnc] at e1; cases e1
theorem replace_all : ∀ l ∈ wordsUpTo 3, Txt.replace (sW (l.flatMap signOf)) (Str.ofString "_") (Str.ofString " ") = sW (blanks (l.flatMap signOf)) := by decide +kernel
theorem cut_allB : ((wordsUpTo 3).all fun l => @decide (CutIs (writtenOf l) (l.flatMap signOf) 6 (-2)) (cutIsDec _ _ _ _)) = true := by decide +kernel
theorem cut_all : ∀ l ∈ wordsUpTo 3, CutIs (writtenOf l) (l.flatMap signOf) 6 (-2) := fun l hl => @of_decide_eq_true _ (cutIsDec _ _ _ _) (List.all_eq_true.mp cut_allB l hl)
theorem call_goes {prog : Program} {w : World} {A : Around} {E : Value → Shared → Prop} {s : Shared} {T : String} {name : Str}
   {id : String} {b : Builtin} {self : Value} {rest : List Value} {Q : Value → Shared → Prop} (h : Slot T name id) (hT : s.TypeIs self T)
   (hb : entryFor table id = some b)
   (hc : wpAny (model prog w) A.in1 (b ⟨self :: rest, []⟩) (fun fin s' => ∃ c, fin = .again c ∧ c.quiet = true ∧ codeAny (model prog w) A c (fun r s'' => ∃ v, r = .ok (.ret v) ∧ Q v s'') s') (fun _ _ => False) s)
   (ha : argsOk id ⟨self :: rest, []⟩) :
   wpAny (model prog w) A (call (.builtin id) (self :: rest)) Q E s := by
 refine wpAny_call (codeAny_call_builtin h.plain hb (h.check _ _ _ _ _ _ _ _ hT ha (wpAny_mono hc (fun fin s' h' => ?_) fun _ _ h' => h'.elim)))
 refine el_EAA h' ?_; try clear h'; intro c zz0 hq hv
 obtain rfl := zz0
 refine ⟨hq, codeAny_mono hv fun r s'' ⟨v, e, hQ⟩ => ?_⟩
 subst e
 exact hQ
noncomputable def IsPat (h : Heap) (a : Addr) : Prop := ∃ o vs T oT cs n, h.get? a = some o ∧ o.cls = .type "re.Pattern" ∧ o.dict = none ∧ o.data = .fields vs ∧ Builtin.Re.reRawNat (vs.getD 2 .none) = 0 ∧ vs.getD 5 .none = .ref T ∧ Builtin.Re.reRawNat (vs.getD 6 .none) = 0 ∧
 h.get? T = some oT ∧ oT.data = .seq cs n ∧ (cs.map Builtin.Re.reRawOf).map (·.toNat) = patCode
theorem IsPat.keeps {h h' : Heap} {a : Addr} (x : IsPat h a) (k : Keep h h') : IsPat h' a :=
 el_EEEEEEAAAAAAAAA x fun o vs T oT cs n h1 h2 h3 h4 h5 h6 h7 h8 h9 h10 => ⟨o, vs, T, oT, cs, n, k _ _ h1, h2, h3, h4, h5, h6, h7, k _ _ h8, h9, h10⟩
section
variable {prog : Program} {w : World} {A : Around} {E : Value → Shared → Prop} {s : Shared}
theorem targetW {a : Addr} {x : List Nat} {t : Tok} {Q : Builtin.Re.ReTarget → Shared → Prop} (hp : IsPat s.heap a)
   (h : ∀ T : Builtin.Re.ReTarget, T.code = patCode → T.text = x.toArray → T.groups = 0 → T.lim = x.length → T.kind = 0 → T.pattern = .ref a → T.string = .str (sW x) t → Q T s) :
   wpAny (model prog w) A (Builtin.Re.reWholeTarget (.ref a) (.str (sW x) t)) Q E s := by
 refine el_EEEEEEAAAAAAAAA hp ?_; try clear hp; intro o vs T oT cs n h1 h2 h3 h4 h5 h6 h7 h8 h9 h10
 unfold Builtin.Re.reWholeTarget
 refine wpAny_bind (wpAny_fieldsOf h1 h4 ?_)
 refine wpAny_bind (wpAny_of_eq (a := ((sW x).cps, 0)) rfl ?_)
 dsimp only
 rw [h5, h6, h7]
 simp only [show ((0 : Nat) == 1) = false from rfl, Bool.and_false, Bool.false_and, Bool.and_true, Bool.false_eq_true, if_false]
 refine wpAny_bind (wpAny_of_eq (a := ()) rfl ?_)
 unfold Builtin.Re.reRawItems
 refine wpAny_bind (wpAny_bind (wpAny_seqItems h8 h9 ?_))
 refine wpAny_pure (wpAny_pure ?_)
 exact h _ h10 rfl rfl (by show x.toArray.size = _; rw [List.size_toArray]) rfl rfl rfl
end
noncomputable def loopArgs (pat f L : Addr) (x : List Nat) (t : Tok) (k : Int) (start : Nat) (must : Bool) : List Value :=
 [.ref pat, .str (sW x) t, .ref f, .int 1 0, .int 0 0, .int k 0, .int (start : Int) 0, .int (start : Int) 0, .bool must, .ref L, .bool false]
section
variable {prog : Program} {w : World} {A : Around} {P : Adr} {mg mb : Str → Option Value}
theorem tail_ok {E : Value → Shared → Prop} {s : Shared} {L : Addr} {x : List Nat} {vs : List Value} {ls : List (List Nat)} {Q : Fin → Shared → Prop} (hl : s.heap.PlainList L (List.toArray vs)) (hp : Paired (RW.r All s.heap) vs ls) (hsz : ls.flatten.length ≤ 1000000)
   (h : ∀ t' s', Up s s' → Q (.done (.ret (.str (sW ls.flatten) t'))) s') :
   wpAny (model prog w) A (do
     let joiner ← Builtin.Re.reSlice x.toArray 0 0 0
     let r ← seqItems? (.ref L)
     if (r.getD #[]).isEmpty = true then do
         let v ← pure joiner
         ret v
       else do
         let v ← call (.builtin (if ((0 : Nat) == 0) = true then "str.join" else "bytes.join")) [joiner, .ref L]
         ret v) Q E s := by
 have e0 : (⟨x.toArray.extract 0 0⟩ : PySem.Str) = Str.ofString "" := by
   rw [ofString_empty]
   show (⟨_⟩ : PySem.Str) = ⟨_⟩
   simp
 refine wpAny_bind (wpAny_mkStr ?_ ?_)
 · have hl' := hl
   refine el_E hl ?_; try clear hl; intro n ho
   refine wpAny_bind (wpAny_seqItems ho rfl ?_)
   show wpAny _ _ (if (List.toArray vs).isEmpty = true then _ else _) _ _ _
   cases vs with
   | nil =>
     cases hp
     show wpAny _ _ (pure (Value.str (⟨x.toArray.extract 0 0⟩ : PySem.Str) s.toks) >>= fun v => ret v) _ _ _
     refine wpAny_bind (wpAny_pure (wpAny_pure ?_))
     have := h s.toks { s with toks := s.toks + 1 } (Up.toks _)
     rw [e0]
     rw [show Str.ofString "" = sW ([] : List (List Nat)).flatten from ofString_empty]
     exact this
   | cons v vs =>
     show wpAny _ _ (call (.builtin "str.join") [Value.str (⟨x.toArray.extract 0 0⟩ : PySem.Str) s.toks, .ref L] >>= fun v => ret v) _ _ _
     rw [e0]
     refine wpAny_bind (join_words (s := { s with toks := s.toks + 1 }) hl' hp hsz fun t' s' u => wpAny_pure (h t' s' ((Up.toks _).trans u)))
 · rw [e0, ofString_empty, sW_length]; simp
theorem pushW {E : Value → Shared → Prop} {s : Shared} {L : Addr} {vs : List Value} {v : Value} {Q : Unit → Shared → Prop} (hl : s.heap.PlainList L (List.toArray vs)) (hz : vs.length ≤ 1000)
   (h : ∀ s', s'.heap.PlainList L (List.toArray (vs ++ [v])) → Sm s s' → KeepNot [L] s.heap s'.heap → s'.heap.objs.size = s.heap.objs.size → Q () s') : wpAny (model prog w) A (updateSeq L (·.push v)) Q E s := by
 refine el_E hl ?_; try clear hl; intro n ho
 have eh := get?_update_seq (c := "list") ho (·.push v)
 have epush : (List.toArray vs).push v = List.toArray (vs ++ [v]) := by simp
 refine wpAny_updateSeq ho rfl (h _ ⟨_, by rw [← epush]; exact eh⟩ ⟨rfl, rfl, rfl⟩ ?_ (Heap.size_update _ _ _)) (by rw [List.size_toArray, sizeLine_eq]; lia) (by rw [Array.size_push, List.size_toArray, sizeLine_eq]; lia)
 · intro b o hb e
   have hne : L ≠ b := fun e => hb (by rw [e]; exact .head _)
   show (s.heap.update L _).get? b = some o
   rw [Heap.get?_update_other _ _ hne]
   exact e
theorem newMatchW {E : Value → Shared → Prop} {s : Shared} {m : Sre.M} {b en lim : Nat} {pat : Value} {x : List Nat} {t : Tok} {Q : Value → Shared → Prop} (hs : m.start = b) (hm : m.handed = en)
   (h : ∀ a s', Up s s' → IsMatch s'.heap a x b en → Q (.ref a) s') : wpAny (model prog w) A (Builtin.Re.reNewMatch pat (.str (sW x) t) 0 0 lim m) Q E s := by
 unfold Builtin.Re.reNewMatch
 rw [hs, hm]
 simp only [List.range_zero, List.any_nil, List.flatMap_nil, Bool.false_eq_true, if_false]
 refine wpAny_bind (wpAny_newTuple ?_ (by rw [sizeLine_eq]; simp))
 unfold newFields
 refine wpAny_newObj_type (h _ _ ((Up.push _ _).trans (Up.push _ _)) ⟨_, t, _, _, _, _, _, _, _, Heap.get?_push_size _ rfl, rfl, rfl, rfl, Heap.get?_push_of_some _ (Heap.get?_push_size _ rfl), rfl⟩)
theorem restW {s : Shared} {pat L : Addr} {h₀ : Heap} {x : List Nat} {t : Tok} {b en : Nat} {k : Int} {lim : Nat} {m : Sre.M} {vs : List Value} {E : Value → Shared → Prop} {Q : Fin → Shared → Prop} (W : Wd P mg mb h₀) (kb : Keep h₀ s.heap) (hroom : A.depth + 1 < recursionLimit)
   (hx : x.length ≤ 1000) (hs : m.start = b) (hm : m.handed = en) (hm3 : (x.drop b).take (en - b) ∈ marks3) (hl : s.heap.PlainList L (List.toArray vs)) (hvl : vs.length ≤ 1000)
   (h : ∀ s' v, RW.r All s'.heap v (unqOf ((x.drop b).take (en - b))) → s'.heap.PlainList L (List.toArray (vs ++ [v])) → Sm s s' → KeepNot [L] s.heap s'.heap → s.heap.objs.size ≤ s'.heap.objs.size → Q (.again (.builtin "re.Pattern.sub.loop" ⟨loopArgs pat P.unqm L x t (k + 1) en (en == b), []⟩)) s') :
   wpAny (model prog w) A (do
     let found ← Builtin.Re.reNewMatch (Value.ref pat) (Value.str (sW x) t) 0 0 lim m
     let item ← holding [found] (call (Value.ref P.unqm) [found])
     if (item != Value.none) = true then do
         updateSeq L fun x => x.push item
         again (Code.builtin "re.Pattern.sub.loop" ⟨[Value.ref pat, Value.str (sW x) t, Value.ref P.unqm, rawInt 1, rawInt 0, rawInt (k + 1), rawInt (en : Int), rawInt (en : Int), Value.bool (en == b), Value.ref L, Value.bool false], []⟩)
       else
         again (Code.builtin "re.Pattern.sub.loop" ⟨[Value.ref pat, Value.str (sW x) t, Value.ref P.unqm, rawInt 1, rawInt 0, rawInt (k + 1), rawInt (en : Int), rawInt (en : Int), Value.bool (en == b), Value.ref L, Value.bool false], []⟩)) Q E s := by
 refine wpAny_bind (newMatchW hs hm fun a s₁ u₁ hma => ?_)
 have k₁ := kb.trans u₁.keep
 refine wpAny_bind (wpAny_holding (call_ret (c_unqm hroom (W.keeps k₁) hma hx hm3) fun v s₂ u₂ ⟨tv, ev⟩ => ?_))
 subst ev
 rw [show (Value.str (sW (unqOf ((x.drop b).take (en - b)))) tv != Value.none) = true from rfl, if_pos rfl]
 have u₁₂ := u₁.trans u₂
 refine wpAny_bind (pushW (vs := vs) (hl.at fun o e => u₁₂.keep _ _ e) hvl fun s₃ hl₃ sm₃ k₃ z₃ => ?_)
 exact wpAny_pure (h s₃ _ ⟨tv, rfl⟩ hl₃ (u₁₂.st.trans sm₃) (fun c o hc e => k₃ c o hc (u₁₂.keep _ _ e)) (Nat.le_trans u₁₂.size (Nat.le_of_eq z₃.symm)))
theorem loop_ok {pat L : Addr} {h₀ : Heap} (W : Wd P mg mb h₀) (hp₀ : IsPat h₀ pat) (hLz : h₀.objs.size ≤ L) {x : List Nat} {t : Tok} (hx : x.length ≤ 1000) : ∀ (fuel : Nat) (start : Nat) (must : Bool) (rest : List (List Nat)), subWalk fuel x start must = some rest →
   ∀ (s : Shared) (k : Int) (acc : List (List Nat)) (vs : List Value), Keep h₀ s.heap → A.depth + 1 < recursionLimit → s.heap.PlainList L (List.toArray vs) → Paired (RW.r All s.heap) vs acc → vs.length + 2 * fuel ≤ 1000 → (acc ++ rest).flatten.length ≤ 1000000 →
   codeAny (model prog w) A (.builtin "re.Pattern.sub.loop" ⟨loopArgs pat P.unqm L x t k start must, []⟩) (fun r s' => ∃ v, r = .ok (.ret v) ∧ (∃ t', v = .str (sW (acc ++ rest).flatten) t') ∧ Sm s s' ∧ KeepNot [L] s.heap s'.heap ∧ s.heap.objs.size ≤ s'.heap.objs.size) s
 | 0, _, _, _, e => nomatch e
 | fuel + 1, start, must, rest, e => by
   intro s k acc vs kb hroom hl hp hvl hfl
   have hpat := hp₀.keeps kb
   refine codeAny_builtin entry_pattern_loop ?_
   rw [Around.under_plainId (by decide +kernel) _]
   unfold Builtin.«re.Pattern.sub.loop» loopArgs
   dsimp only
   refine wpAny_bind (targetW hpat fun T hcode htext hg hlim hkind hpt hst => ?_)
   simp only [show ((1 : Int) == 0) = false from rfl, show ((1 : Int) == 1) = true from rfl, show ((0 : Int) != 0) = false from rfl, Bool.false_and, Bool.false_eq_true, if_false, if_true, Int.toNat_natCast]
   unfold subWalk at e
   cases hf : found x start must with
   | none => rw [hf] at e; cases e
   | some r =>
     obtain ⟨yes, b, en, li⟩ := r
     rw [hf] at e
     cases yes with
     | false =>
       refine wpAny_bind (next_ok hcode htext hg hlim hf (fun h => nomatch h) fun _ => ?_)
       dsimp only
       have er : rest = if start < x.length then [x.drop start] else [] := by
         have e' : some (if start < x.length then [x.drop start] else []) = some rest := e
         exact (Option.some.inj e').symm
       rw [hlim, htext, hkind]
       by_cases hs : start < x.length
       · rw [if_pos hs] at er ⊢
         have es : (⟨x.toArray.extract start x.length⟩ : PySem.Str) = sW (x.drop start) := by
           show (⟨_⟩ : PySem.Str) = ⟨_⟩
           rw [List.extract_toArray]
           congr 2
           show (x.drop start).take (x.length - start) = x.drop start
           exact List.take_of_length_le (by rw [List.length_drop]; lia)
         refine wpAny_bind (wpAny_mkStr ?_ (by rw [es, sW_length, sizeLine_eq, List.length_drop]; lia))
         rw [es]
         refine wpAny_bind (pushW (vs := vs) hl (by lia) fun s₂ hl₂ sm₂ k₂ z₂ => ?_)
         subst er
         have hp₂ : Paired (RW.r All s₂.heap) (vs ++ [.str (sW (x.drop start)) s.toks]) (acc ++ [x.drop start]) :=
           Paired.append (Paired.imp (fun _ _ q => q) hp) (.cons ⟨_, rfl⟩ .nil)
         refine tail_ok hl₂ hp₂ hfl fun t' s₃ u₃ => ?_
         have sm₃ := sm₂.trans u₃.st
         exact ⟨_, rfl, ⟨t', rfl⟩, ⟨sm₃.gens, sm₃.drawn, sm₃.os⟩, fun b o hb e => u₃.keep _ _ (k₂ b o hb e), Nat.le_trans (Nat.le_of_eq z₂.symm) u₃.size⟩
       · rw [if_neg hs] at er ⊢
         subst er
         refine tail_ok hl (by rw [List.append_nil]; exact hp) hfl fun t' s₃ u₃ => ?_
         exact ⟨_, rfl, ⟨t', rfl⟩, u₃.st, fun b o _ e => u₃.keep _ _ e, u₃.size⟩
     | true =>
       have e' : (if li = -1 ∧ b < en ∧ en ≤ x.length ∧ start ≤ b ∧ (x.drop b).take (en - b) ∈ marks3 then
           (subWalk fuel x en (en == b)).map fun r => (if start < b then [(x.drop start).take (b - start)] else []) ++ [unqOf ((x.drop b).take (en - b))] ++ r else none) = some rest := e
       by_cases hc : li = -1 ∧ b < en ∧ en ≤ x.length ∧ start ≤ b ∧ (x.drop b).take (en - b) ∈ marks3
       case neg => rw [if_neg hc] at e'; cases e'
       rw [if_pos hc] at e'
       refine el_AAAA hc ?_; try clear hc; intro hli hbe hex hsb hm3
       refine el_EA (Option.map_eq_some_iff.mp e') ?_; intro r hr er
       refine wpAny_bind (next_ok hcode htext hg hlim hf (fun _ m hms hmh hml => ?_) fun h => nomatch h)
       have hms' : m.start = b := hms
       have hmh' : m.handed = en := hmh
       have hml' : m.lastindex = li := hml
       dsimp only
       rw [htext, hkind, hg, hlim, hms', hmh']
       have again_ : ∀ s' acc' vs', acc' ++ [unqOf ((x.drop b).take (en - b))] ++ r = acc ++ rest → Sm s s' → KeepNot [L] s.heap s'.heap → s.heap.objs.size ≤ s'.heap.objs.size → s'.heap.PlainList L (List.toArray vs') →
           Paired (RW.r All s'.heap) vs' acc' → vs'.length ≤ vs.length + 1 →
           wpAny (model prog w) A.in1 (do
             let found ← Builtin.Re.reNewMatch (Value.ref pat) (Value.str (sW x) t) 0 0 x.length m
             let item ← holding [found] (call (Value.ref P.unqm) [found])
             if (item != Value.none) = true then do
                 updateSeq L fun x => x.push item
                 again (Code.builtin "re.Pattern.sub.loop" ⟨[Value.ref pat, Value.str (sW x) t, Value.ref P.unqm, rawInt 1, rawInt 0, rawInt (k + 1), rawInt (en : Int), rawInt (en : Int), Value.bool (en == b), Value.ref L, Value.bool false], []⟩)
               else
                 again (Code.builtin "re.Pattern.sub.loop" ⟨[Value.ref pat, Value.str (sW x) t, Value.ref P.unqm, rawInt 1, rawInt 0, rawInt (k + 1), rawInt (en : Int), rawInt (en : Int), Value.bool (en == b), Value.ref L, Value.bool false], []⟩))
             (fun fin s' => match fin with
               | .done f => ∃ v, (Except.ok f : Result) = .ok (.ret v) ∧ (∃ t', v = .str (sW (acc ++ rest).flatten) t') ∧ Sm s s' ∧ KeepNot [L] s.heap s'.heap ∧ s.heap.objs.size ≤ s'.heap.objs.size
               | .again c' => c'.quiet = true ∧ codeAny (model prog w) A c' (fun r s' => ∃ v, r = .ok (.ret v) ∧ (∃ t', v = .str (sW (acc ++ rest).flatten) t') ∧ Sm s s' ∧ KeepNot [L] s.heap s'.heap ∧ s.heap.objs.size ≤ s'.heap.objs.size) s')
             (fun e s' => ∃ v, (Except.error e : Result) = .ok (.ret v) ∧ (∃ t', v = .str (sW (acc ++ rest).flatten) t') ∧ Sm s s' ∧ KeepNot [L] s.heap s'.heap ∧ s.heap.objs.size ≤ s'.heap.objs.size) s' := by
         intro s₁ acc' vs' ea sm₁ k₁ z₁ hl₁ hp₁ hv₁
         have kb₁ : Keep h₀ s₁.heap := fun c o e => k₁ c o (fun hc => by rw [List.mem_singleton.mp hc] at e; exact Nat.lt_irrefl _ (Nat.lt_of_lt_of_le (Heap.lt_size e) hLz)) (kb c o e)
         refine restW W kb₁ (by rw [Around.in1_depth]; exact hroom) hx hms' hmh' hm3 hl₁ (by lia) fun s₂ v hv hl₂ sm₂ k₂ z₂ => ?_
         refine ⟨by kernel_rfl, ?_⟩
         have kb₂ : Keep h₀ s₂.heap := fun c o e => k₂ c o (fun hc => by rw [List.mem_singleton.mp hc] at e; exact Nat.lt_irrefl _ (Nat.lt_of_lt_of_le (Heap.lt_size e) hLz)) (kb₁ c o e)
         have hp₂ : Paired (RW.r All s₂.heap) (vs' ++ [v]) (acc' ++ [unqOf ((x.drop b).take (en - b))]) := Paired.append (Paired.imp (fun _ _ q => q) hp₁) (.cons hv .nil)
         refine codeAny_mono (loop_ok W hp₀ hLz hx fuel en (en == b) r hr s₂ (k + 1) _ (vs' ++ [v]) kb₂ hroom hl₂ hp₂ (by rw [List.length_append, List.length_singleton]; lia) (by rw [ea]; exact hfl)) fun rr s₃ ⟨v3, e3, t3, sm₃, k₃, z₃⟩ => ?_
         rw [ea] at t3
         exact ⟨v3, e3, t3, sm₁.trans (sm₂.trans sm₃), fun c o hc e => k₃ c o hc (k₂ c o hc (k₁ c o hc e)), Nat.le_trans z₁ (Nat.le_trans z₂ z₃)⟩
       by_cases hs : start < b
       · rw [if_pos hs] at er ⊢
         have es : (⟨x.toArray.extract start b⟩ : PySem.Str) = sW ((x.drop start).take (b - start)) := by
           show (⟨_⟩ : PySem.Str) = ⟨_⟩
           rw [List.extract_toArray]
         refine wpAny_bind (wpAny_mkStr ?_ (by rw [es, sW_length, sizeLine_eq, List.length_take, List.length_drop]; lia))
         rw [es]
         refine wpAny_bind (pushW (vs := vs) hl (by lia) fun s₂ hl₂ sm₂ k₂ z₂ => ?_)
         have hp₂ : Paired (RW.r All s₂.heap) (vs ++ [.str (sW ((x.drop start).take (b - start))) s.toks]) (acc ++ [(x.drop start).take (b - start)]) :=
           Paired.append (Paired.imp (fun _ _ q => q) hp) (.cons ⟨_, rfl⟩ .nil)
         exact again_ s₂ _ _ (by rw [← er]; simp only [List.append_assoc]) ⟨sm₂.gens, sm₂.drawn, sm₂.os⟩ k₂ (Nat.le_of_eq z₂.symm) hl₂ hp₂ (by rw [List.length_append, List.length_singleton]; lia)
       · rw [if_neg hs] at er ⊢
         exact again_ s acc vs (by rw [← er]; simp only [List.append_assoc, List.nil_append]) (Sm.refl s) (fun _ _ _ e => e) (Nat.le_refl _) hl hp (by lia)
end
section
variable {prog : Program} {w : World} {A : Around} {E : Value → Shared → Prop} {s : Shared} {P : Adr} {mg mb : Str → Option Value}
theorem tyKeep {s s' : Shared} {a : Addr} {T : String} (h : s.TypeIs (.ref a) T) (k : Keep s.heap s'.heap) : s'.TypeIs (.ref a) T :=
 let ⟨o, e, hc⟩ := h; ⟨o, k _ _ e, hc⟩
theorem type_function_call : typeLookup (.type "function") "__call__" = pure (some (.builtin "function.__call__")) := by rw [typeLookup_type, builtinLookup_eq_fast]; kernel_rfl
theorem str_no_bytearray : isSubtype (.type "str") (.type "bytearray") = pure false := by rw [isSubtype_type]; kernel_rfl
theorem notHeldW {x : PySem.Str} {t : Tok} {id : String} {Q : Unit → Shared → Prop} (h : Q () s) : wpAny (model prog w) A (Builtin.Re.reNotHeld id (.str x t)) Q E s := by
 unfold Builtin.Re.reNotHeld
 refine wpAny_bind (wpAny_isInstance (typeIs_str _ _ _) str_no_bytearray ?_)
 exact wpAny_pure h
theorem subW {pat : Addr} {y l : List Nat} {t : Tok} {Q : Value → Shared → Prop} (hroom : A.depth + 1 < recursionLimit) (W : Wd P mg mb s.heap) (hpat : IsPat s.heap pat) (hf : s.TypeIs (.ref P.unqm) "function") (hy : y.length ≤ 1000) (hl : l.length ≤ 1000)
   (hw : (subWalk 5 y 0 false).map List.flatten = some l) (h : ∀ t' s', Up s s' → Q (.str (sW l) t') s') :
   wpAny (model prog w) A (call (.builtin "re.Pattern.sub") [.ref pat, .ref P.unqm, .str (sW y) t]) Q E s := by
 refine el_EA (Option.map_eq_some_iff.mp hw) ?_; intro rest hr el
 refine el_EEEEEEAA (id hpat) ?_; intro o vs T oT cs n h1 h2 _
 refine call_goes slot_pattern_sub ⟨o, h1, h2⟩ entry_pattern_sub ?_ (args_pattern_sub _ _ _)
 unfold Builtin.«re.Pattern.sub» Builtin.Re.reSubstitute
 dsimp only
 refine wpAny_bind (wpAny_of_eq (a := [some (.ref P.unqm), some (.str (sW y) t), none]) (by kernel_rfl) ?_)
 dsimp only
 refine wpAny_bind (wpAny_of_eq (a := 0) rfl ?_)
 refine wpAny_bind (wpAny_specialOf hf type_function_call ?_)
 rw [show (some (Value.builtin "function.__call__")).isSome = true from rfl]
 rw [if_pos rfl]
 refine wpAny_bind (wpAny_pure ?_)
 rw [if_pos rfl]
 refine wpAny_bind (wpAny_pure ?_)
 dsimp only
 refine wpAny_bind (wpAny_holding (targetW hpat fun T' _ _ _ _ _ _ _ => ?_))
 rw [show ((1 : Int) == 1) = true from rfl, if_pos rfl]
 refine wpAny_bind (notHeldW ?_)
 unfold newList
 refine wpAny_bind (wpAny_newObj_type ?_)
 refine wpAny_pure ⟨_, rfl, by kernel_rfl, ?_⟩
 refine codeAny_mono (loop_ok W hpat (Nat.le_refl _) hy 5 0 false rest hr _ 0 [] [] (Keep.push _ _) hroom ⟨_, Heap.get?_push_size _ rfl⟩ .nil (by decide) (by rw [List.nil_append, el]; omega)) fun r s₃ ⟨v, e3, ⟨t', ev⟩, sm, k, z⟩ => ?_
 refine ⟨v, e3, ?_⟩
 subst ev
 rw [List.nil_append, el]
 refine h t' s₃ ⟨⟨sm.gens, sm.drawn, sm.os⟩, fun b o e => k b o ?_ (Heap.get?_push_of_some _ e), ?_⟩
 · intro hb
   rw [List.mem_singleton.mp hb] at e
   exact Nat.lt_irrefl _ (Heap.lt_size e)
 · have z' : (s.heap.push _).objs.size ≤ s₃.heap.objs.size := z
   rw [Heap.size_push] at z'
   exact Nat.le_of_succ_le z'
theorem c_hdecode {pat : Addr} {l : List Nat} {t : Tok} (hroom : A.depth + 2 < recursionLimit) (W : Wd P mg mb s.heap) (hg : mg (Str.ofString "_twin_re_1") = some (.ref pat)) (hpat : IsPat s.heap pat) (hf : s.TypeIs (.ref P.unqm) "function") (hl : l ∈ wordsUpTo 3) (hl3 : l.length ≤ 3) :
   codeAny (model prog w) A (.call (.ref P.hdecode) ⟨[.str (sW (l.flatMap signOf)) t], []⟩) (RetD RW l s) s := by
 refine enterT (binds := [(Str.ofString "s", .str (sW (l.flatMap signOf)) t)]) (by omega) W.dhdec W.lim (fun s pm cd doc => BindsTo.of_eq rfl) (by decide) (fun x hx => by rw [List.mem_singleton.mp hx]; exact (by trivial)) ?_ (fun _ _ _ _ => (by trivial)) (fun _ _ _ => (by trivial)) rfl rfl rfl
 intro L cd s₁ n hL F u ht
 have W₁ := W.up u
 have hsl := signs_len l
 have ht1 : s₁.toks = s.toks + 1 := ht
 refine wpAny_execs_cons ?_
 exists wpAny_Assign_Name ?_ (by trivial)
 exists meth2 ab_name (by trivial) (by trivial) (by trivial) PySem.F.plainAttrs_str PySem.F.slot_str_replace PySem.F.type_str_replace ?_
 exists n_loc F (by trivial) (by trivial) (by trivial) (by trivial) ?_
 exists ⟨typeIs_str _ _ _, str_none, ?_⟩
 exists wpAny_Constant_str ?_
 exists wpAny_Constant_str ?_
 refine SC.replaceW (by show (s₁.toks : Nat) ≠ 0; omega) (by show (s₁.toks + 1 : Nat) ≠ 0; omega) (by show (s₁.toks : Nat) ≠ s₁.toks + 1; omega) (by decide +kernel) (by rw [sW_length]; omega) (by decide +kernel) fun t' k => ?_
 rw [replace_all l hl]
 have u₂ : Up s₁ { s₁ with toks := k } := Up.toks _
 exists st_loc (F.pass u₂) (by trivial) (by trivial) (by trivial) fun s₃ F₃ hs₃ sm₃ => ?_
 have W₃ := W.keeps F₃.base
 refine wpAny_execs_cons ?_
 exists wpAny_Return_some ?_
 exists meth2 ab_name (by trivial) (by trivial) (by trivial) plainAttrs_pattern slot_pattern_sub type_pattern_sub ?_
 exists n_gl W₃ (by trivial) (by trivial) (by trivial) (by trivial) hg ?_
 have hpat₃ := hpat.keeps F₃.base
 refine el_EEEEEEAAA (id hpat₃) ?_; intro o vs T oT cs n' h1 h2 hd _
 refine ⟨⟨o, h1, h2⟩, fun _ ea => by cases ea; exact ⟨o, h1, hd⟩, ?_⟩
 exists n_gl W₃ (by trivial) (by trivial) (by trivial) (by trivial) W₃.gunqm ?_
 exists n_loc F₃ (by trivial) (by trivial) (by trivial) (if_pos rfl) ?_
 have hbl : (blanks (l.flatMap signOf)).length ≤ 1000 := by unfold blanks; rw [List.length_map]; omega
 exists subW (room1 hroom) W₃ hpat₃ (tyKeep hf F₃.base) hbl (by omega) (sub_all l hl) fun t₄ s₄ u₄ => ?_
 refine retD_ (R := RW) (F₃.pass u₄) (u.st.trans (u₂.st.trans (sm₃.trans u₄.st))) ?_
 exact ⟨_, rfl⟩
end
section
variable {prog : Program} {w : World} {A : Around} {E : Value → Shared → Prop} {s : Shared}
noncomputable abbrev objS : PySem.Str := Str.ofString "obj"
theorem bb_object {bs : List Value} {Q : Value → Shared → Prop} (e : bs = [.type "object"]) (h : Q (.type "object") s) : wpAny (model prog w) A (Builtin.Slots.bestBase bs) Q E s := e ▸ wpAny_of_eq (by kernel_rfl) h
theorem sn_object {Q : List PySem.Str → Shared → Prop} (h : Q [] s) : wpAny (model prog w) A (Builtin.Slots.slotNamesOf (.type "object")) Q E s := wpAny_of_eq (by kernel_rfl) h
theorem gd_object {Q : Bool → Shared → Prop} (h : Q false s) : wpAny (model prog w) A (Builtin.Slots.givesDict (.type "object")) Q E s := wpAny_of_eq (by kernel_rfl) h
theorem gw_object {Q : Bool → Shared → Prop} (h : Q false s) : wpAny (model prog w) A (Builtin.Slots.givesWeak (.type "object")) Q E s := wpAny_of_eq (by kernel_rfl) h
theorem vs_object {Q : Bool → Shared → Prop} (h : Q false s) : wpAny (model prog w) A (Builtin.Slots.varSize (.type "object")) Q E s := wpAny_of_eq (by kernel_rfl) h
theorem read_ok {es : Array DictEntry} {k : Int} {kv : Value} {Ls : Addr} {u : Tok} {Q : Builtin.Slots.Plan → Shared → Prop} (hs : es.find? (fun e => e.key.isStr (Str.ofString "__slots__")) = some ⟨k, kv, .ref Ls⟩) (ho : es.any (fun e => e.key.isStr objS) = false)
   (hl : s.heap.IsList Ls #[.str objS u]) (h : ∀ s', Up s s' → Q { names := [objS], dict := false, weak := false, inherited := [] } s') : wpAny (model prog w) A (Builtin.Slots.read (Str.ofString "K") [.type "object"] es) Q E s := by
 unfold Builtin.Slots.read
 refine wpAny_bind (bb_object rfl ?_)
 refine wpAny_bind (sn_object ?_)
 refine wpAny_bind (gd_object ?_)
 refine wpAny_bind (gw_object ?_)
 refine wpAny_bind (vs_object ?_)
 rw [hs]
 dsimp only
 refine wpAny_bind (wpAny_rule ?_)
 refine el_EAAE (id hl) ?_; intro oL eL cL nL dL
 have hasL : ∀ (Q : Option PySem.Str → Shared → Prop), Q none s → wpAny (model prog w) A (asStr? (.ref Ls)) Q E s := by
   intro Q hQ
   unfold asStr?
   refine wpAny_bind (wpAny_load eL ?_)
   rw [dL]
   exact wpAny_pure hQ
 refine wpAny_bind (hasL _ ?_)
 rw [if_neg (by decide)]
 refine wpAny_bind (collect_list hl ?_ (by rw [sizeLine_eq]; simp))
 rw [if_pos (by rfl)]
 refine wpAny_bind (vs_object ?_)
 rw [if_neg (by decide)]
 simp only [List.forIn_cons, List.forIn_nil]
 have hid : Builtin.Slots.isIdentifier objS = some true := by decide +kernel
 have hmg : Builtin.Slots.mangle (Str.ofString "K") objS = objS := by decide +kernel
 refine wpAny_bind (wpAny_bind (wpAny_bind (wpAny_of_eq (a := some objS) rfl ?_)))
 refine wpAny_bind (wpAny_pure ?_)
 rw [hid]
 dsimp only
 refine wpAny_bind (wpAny_pure ?_)
 rw [if_neg (by decide), if_neg (by decide +kernel), if_neg (by decide +kernel)]
 refine wpAny_pure (wpAny_pure ?_)
 dsimp only
 refine wpAny_bind ?_
 rw [show (#[].push objS : Array PySem.Str) = List.toArray [objS] from rfl, List.forIn_toArray]
 simp only [List.forIn_cons, List.forIn_nil, hmg, ho, Bool.false_and]
 rw [if_neg (by decide +kernel), if_neg (by decide), if_neg (by decide +kernel)]
 refine wpAny_bind (wpAny_pure (wpAny_pure ?_))
 dsimp only
 refine wpAny_bind ?_
 have hne : (Value.type "object" != Value.type "object") = false := by decide +kernel
 simp only [List.forIn_cons, List.forIn_nil, hne, Bool.false_eq_true, if_false]
 refine wpAny_bind (wpAny_pure (wpAny_pure (wpAny_pure ?_)))
 refine h _ ⟨⟨rfl, rfl, rfl⟩, fun b o e => ?_, ?_⟩
 · show (Heap.update _ _ _).get? b = some o
   rw [Heap.get?_update_other _ _ (Nat.ne_of_gt (Heap.lt_size e))]
   exact Heap.get?_push_of_some _ e
 · show _ ≤ (Heap.update _ _ _).objs.size
   rw [Heap.size_update, Heap.size_push]
   exact Nat.le_succ _
end
structure CS (s s' : Shared) (D C : Addr) (m : PySem.Str → Option Value) (cd : ClassData) (sl : Array (Option Value)) (ps : List (Addr × Obj)) : Prop where
 up : Up s s'
 cls : s'.heap.get? C = some { cls := .type "type", data := .cls cd, slots := sl }
 ns : s'.heap.Ns1 D m
 dz : s.heap.objs.size ≤ D
 cz : s.heap.objs.size ≤ C
 ne : D ≠ C
 oth : ∀ p ∈ ps, s'.heap.get? p.1 = some p.2 ∧ p.1 ≠ D ∧ p.1 ≠ C ∧ s.heap.objs.size ≤ p.1
section
variable {prog : Program} {w : World} {A : Around} {E : Value → Shared → Prop} {s s' : Shared} {D C : Addr} {m : PySem.Str → Option Value} {cd : ClassData} {sl : Array (Option Value)} {ps : List (Addr × Obj)}
theorem CS.atC (X : CS s s' D C m cd sl ps) {h' : Heap} {t : Nat} {cd' : ClassData} {sl' : Array (Option Value)} (hs : Heap.SameBut C s'.heap h') (hc : h'.get? C = some { cls := .type "type", data := .cls cd', slots := sl' }) : CS s { s' with heap := h', toks := t } D C m cd' sl' ps :=
 ⟨⟨⟨X.up.st.gens, X.up.st.drawn, X.up.st.os⟩, fun b o e => (hs.2 b (Nat.ne_of_lt (Nat.lt_of_lt_of_le (Heap.lt_size e) X.cz))).trans (X.up.keep b o e), Nat.le_trans X.up.size (Nat.le_of_eq hs.1.symm)⟩,
   hc, X.ns.sameBut hs X.ne, X.dz, X.cz, X.ne, fun p hp => ⟨(hs.2 _ (X.oth p hp).2.2.1).trans (X.oth p hp).1, (X.oth p hp).2⟩⟩
theorem CS.atD (X : CS s s' D C m cd sl ps) {h' : Heap} {t : Nat} {m' : PySem.Str → Option Value} (hs : Heap.SameBut D s'.heap h') (hn : h'.Ns1 D m') : CS s { s' with heap := h', toks := t } D C m' cd sl ps :=
 ⟨⟨⟨X.up.st.gens, X.up.st.drawn, X.up.st.os⟩, fun b o e => (hs.2 b (Nat.ne_of_lt (Nat.lt_of_lt_of_le (Heap.lt_size e) X.dz))).trans (X.up.keep b o e), Nat.le_trans X.up.size (Nat.le_of_eq hs.1.symm)⟩,
   (hs.2 _ (Ne.symm X.ne)).trans X.cls, hn, X.dz, X.cz, X.ne, fun p hp => ⟨(hs.2 _ (X.oth p hp).2.1).trans (X.oth p hp).1, (X.oth p hp).2⟩⟩
theorem CS.upS (X : CS s s' D C m cd sl ps) {s'' : Shared} (u : Up s' s'') : CS s s'' D C m cd sl ps :=
 ⟨X.up.trans u, u.keep _ _ X.cls, X.ns.at fun o e => u.keep _ _ e, X.dz, X.cz, X.ne, fun p hp => ⟨u.keep _ _ (X.oth p hp).1, (X.oth p hp).2⟩⟩
theorem CS.newP (X : CS s s' D C m cd sl ps) {o : Obj} (hf : o.isFreed = false) {t : Nat} : CS s { s' with heap := s'.heap.push o, toks := t } D C m cd sl ((s'.heap.objs.size, o) :: ps) := by
 have Y := X.upS (Up.push (s := s') o t)
 refine ⟨Y.up, Y.cls, Y.ns, Y.dz, Y.cz, Y.ne, fun p hp => ?_⟩
 rcases List.mem_cons.mp hp with rfl | hp
 · exact ⟨Heap.get?_push_size _ hf, Nat.ne_of_gt X.ns.ns.lt, Nat.ne_of_gt (Heap.lt_size X.cls), X.up.size⟩
 · exact Y.oth p hp
theorem cs_slot {i : Nat} {v : Option Value} {Q : Unit → Shared → Prop} (X : CS s s' D C m cd sl ps) (hi : (decide (i ≥ sizeLine)) = false)
   (h : ∀ s'', CS s s'' D C m cd ((sl ++ Array.replicate (i + 1 - sl.size) none).setIfInBounds i v) ps → Q () s'') : wpAny (model prog w) A (setSlotAt C i v) Q E s' := by
 unfold setSlotAt
 exists wpAny_ite_false hi ?_
 refine wpAny_updatePart X.cls (h _ (X.atC (Heap.SameBut.update ..) ?_))
 exact Heap.get?_update_self _ X.cls rfl
theorem cs_slot' {i : Nat} {v : Option Value} {Q : Unit → Shared → Prop} (sl' : Array (Option Value)) (X : CS s s' D C m cd sl ps) (hi : (decide (i ≥ sizeLine)) = false) (e : (sl ++ Array.replicate (i + 1 - sl.size) none).setIfInBounds i v = sl')
 (h : ∀ s'', CS s s'' D C m cd sl' ps → Q () s'') : wpAny (model prog w) A (setSlotAt C i v) Q E s' := cs_slot X hi fun s'' Y => h s'' (e ▸ Y)
theorem cs_cls {f : ClassData → ClassData} {Q : Unit → Shared → Prop} (X : CS s s' D C m cd sl ps) (hp : (Data.cls (f cd)).pastItsLine = none)
   (h : ∀ s'', CS s s'' D C m (f cd) sl ps → Q () s'') : wpAny (model prog w) A (updateCls C f) Q E s' := by
 unfold updateCls
 refine wpAny_bind (wpAny_load X.cls ?_)
 have hg : (s'.heap.update C (Obj.mapCls f)).get? C = some { cls := .type "type", data := .cls (f cd), slots := sl } := Heap.get?_update_self _ X.cls rfl
 refine wpAny_bind (wpAny_update X.cls ?_)
 unfold lookBehind
 refine wpAny_bind (wpAny_loadPart hg ?_)
 rw [hp]
 exact wpAny_pure (h _ (X.atC (Heap.SameBut.update ..) hg))
theorem cs_set {name : PySem.Str} {v : Value} {Q : Unit → Shared → Prop} (X : CS s s' D C m cd sl ps)
   (h : ∀ s'', CS s s'' D C (fun x => if x = name then some v else m x) cd sl ps → Q () s'') : wpAny (model prog w) A (nsSet D name v) Q E s' :=
 wpAny_nsSet1 X.ns fun h' hn hs => h _ (X.atD hs hn)
theorem cs_del {name : PySem.Str} {Q : Bool → Shared → Prop} (X : CS s s' D C m cd sl ps)
   (h : ∀ s'', CS s s'' D C (fun x => if x = name then none else m x) cd sl ps → Q (m name).isSome s'') : wpAny (model prog w) A (nsDel D name) Q E s' :=
 wpAny_nsDel1 X.ns fun h' hn hs => h _ (X.atD hs hn)
theorem cs_get {name : PySem.Str} {r : Option Value} {Q : Option Value → Shared → Prop} (X : CS s s' D C m cd sl ps) (hv : m name = r) (h : Q r s') : wpAny (model prog w) A (nsGet D name) Q E s' := wpAny_nsGet X.ns.ns (by rw [hv]; exact h)
theorem ns1_ent {h : Heap} {a : Addr} {m : PySem.Str → Option Value} (x : h.Ns1 a m) : ∃ o es ep, h.get? a = some o ∧ o.data = .dict es ep ∧ ∀ e ∈ es, ∃ n t, e.key = .str n t ∧ m n = some e.val := by
 refine el_EEEAAAA x ?_; try clear x; intro o es ep e1 e2 hk hu hm
 refine ⟨o, es, ep, e1, e2, fun e he => ?_⟩
 refine el_EE (hk e he) ?_; intro n t hn
 refine ⟨n, t, hn, ?_⟩
 rw [← hm n]
 have hl : ∀ (l : List DictEntry), (l.Pairwise fun a b => ∀ n, a.key.isStr n = true → b.key.isStr n = true → False) → e ∈ l → l.find? (fun e => e.key.isStr n) = some e := by
   intro l
   induction l with
   | nil => intro _ h; cases h
   | cons x r ih =>
     intro hp h
     rw [List.find?_cons]
     have hq := List.pairwise_cons.mp hp
     have hen : e.key.isStr n = true := by rw [hn]; simp [Value.isStr]
     rcases List.mem_cons.mp h with rfl | h
     · rw [hen]
     · cases hx : x.key.isStr n with
       | true => exact (hq.1 e h n hx hen).elim
       | false => exact ih hq.2 h
 unfold nsFind findBy
 rw [← Array.find?_toList, hl es.toList hu (by simpa using he)]
 rfl
end
section
variable {prog : Program} {w : World} {A : Around} {E : Value → Shared → Prop} {s s' : Shared} {D C : Addr} {m : PySem.Str → Option Value} {cd : ClassData} {sl : Array (Option Value)} {ps : List (Addr × Obj)}
theorem cs_cls' {f : ClassData → ClassData} {Q : Unit → Shared → Prop} (cd' : ClassData) (X : CS s s' D C m cd sl ps) (e : f cd = cd') (hp : (Data.cls cd').pastItsLine = none)
 (h : ∀ s'', CS s s'' D C m cd' sl ps → Q () s'') : wpAny (model prog w) A (updateCls C f) Q E s' := cs_cls X (by rw [e]; exact hp) fun s'' Y => h s'' (e ▸ Y)
theorem anyM_one {α : Type} {f : α → Sem Bool} {l : List α} {x : α} {Q : Bool → Shared → Prop} (hl : l = [x]) (h : wpAny (model prog w) A (f x) Q E s) : wpAny (model prog w) A (l.anyM f) Q E s := by
 subst hl
 unfold List.anyM
 refine wpAny_bind (wpAny_mono h (fun b s' hb => ?_) fun _ _ e => e)
 cases b with
 | true => exact wpAny_pure hb
 | false => exact wpAny_pure hb
theorem cdata_C {Q : ClassData → Shared → Prop} (X : CS s s' D C m cd sl ps) (h : Q cd s') : wpAny (model prog w) A (classData C) Q E s' := by
 unfold classData
 refine wpAny_bind (wpAny_load X.cls ?_)
 exact wpAny_pure h
theorem tl_C {name : PySem.Str} {r : Option Value} {Q : Option Value → Shared → Prop} (X : CS s s' D C m cd sl ps) (hmro : cd.mro = [.ref C, .type "object"]) (hns : cd.ns = D) (hv : m name = none) (ho : classOwn (.type "object") name = pure r) (h : Q r s') :
   wpAny (model prog w) A (typeLookup (.ref C) name) Q E s' := by
 unfold typeLookup mroOf
 refine wpAny_bind (wpAny_bind (cdata_C X (wpAny_pure ?_)))
 rw [hmro]
 simp only [List.forIn_cons, List.forIn_nil]
 refine wpAny_bind (wpAny_bind (wpAny_bind ?_))
 show wpAny _ _ (do nsGet (← classData C).ns name) _ _ _
 refine wpAny_bind (cdata_C X ?_)
 rw [hns]
 refine cs_get X hv ?_
 refine wpAny_pure (wpAny_bind (wpAny_bind (wpAny_of_eq ho ?_)))
 cases r with
 | none => exact wpAny_pure (wpAny_pure (wpAny_pure h))
 | some v => exact wpAny_pure (wpAny_pure (wpAny_pure h))
theorem own_object_new : classOwn (.type "object") "__new__" = pure (some (.builtin "object.__new__")) := PySem.F.own_object (by kernel_rfl)
theorem refresh_ok {v : Value} {Q : Unit → Shared → Prop} (X : CS s s' D C m cd sl ps) (hmro : cd.mro = [.ref C, .type "object"]) (hns : cd.ns = D) (hv : m (Str.ofString "__new__") = none) (hsl : (sl[4]?).join = some v) (h : Q () s') :
   wpAny (model prog w) A (Bind.refreshMaker C) Q E s' := by
 unfold Bind.refreshMaker slotAt
 refine wpAny_bind (wpAny_bind (wpAny_loadPart X.cls (wpAny_pure ?_)))
 rw [hsl]
 rw [if_neg (by simp)]
 refine wpAny_bind (tl_C X hmro hns hv own_object_new ?_)
 dsimp only
 refine wpAny_ite_false (by decide +kernel) (wpAny_pure h)
theorem nodup_len {L : List PySem.Str} : ∀ {l : List PySem.Str}, l.Nodup → (∀ x ∈ l, x ∈ L) → l.length ≤ L.length := by
 intro l hn hs
 induction l generalizing L with
 | nil => exact Nat.zero_le _
 | cons x r ih =>
   have hx := hs x (.head _)
   have hq := List.nodup_cons.mp hn
   have := ih (L := L.erase x) hq.2 fun y hy => by
     have hne : y ≠ x := fun e => hq.1 (e ▸ hy)
     exact (List.mem_erase_of_ne hne).mpr (hs y (.tail _ hy))
   rw [List.length_erase_of_mem hx] at this
   have hL : 0 < L.length := List.length_pos_of_mem hx
   simp only [List.length_cons]
   lia
theorem ns1_size {h : Heap} {a : Addr} {m : PySem.Str → Option Value} {L : List PySem.Str} (x : h.Ns1 a m) (hL : ∀ x, x ∉ L → m x = none) : ∃ o es ep, h.get? a = some o ∧ o.data = .dict es ep ∧ es.size ≤ L.length := by
 refine el_EEEAAAA (id x) ?_; intro o es ep e1 e2 hk hu hm
 refine el_EEEAA (ns1_ent x) ?_; intro o' es' ep' e1' e2' hent
 rw [e1] at e1'; cases e1'
 rw [e2] at e2'; cases e2'
 refine ⟨o, es, ep, e1, e2, ?_⟩
 have keyOf : ∀ e : DictEntry, PySem.Str := fun e => match e.key with | .str n _ => n | _ => Str.empty
 let kf : DictEntry → PySem.Str := fun e => match e.key with | .str n _ => n | _ => Str.empty
 have hlen : (es.toList.map kf).length ≤ L.length := by
   refine nodup_len ?_ ?_
   · refine List.pairwise_map.mpr ?_
     refine List.Pairwise.imp_of_mem ?_ hu
     intro a b ha hb hab e
     refine el_EEA (hent a (by simpa using ha)) ?_; intro na ta ea _
     refine el_EEA (hent b (by simpa using hb)) ?_; intro nb tb eb _
     have e' : na = nb := by
       have : kf a = kf b := e
       simpa [kf, ea, eb] using this
     exact hab na (by rw [ea]; simp [Value.isStr]) (by rw [eb, e']; simp [Value.isStr])
   · intro y hy
     refine el_EA (List.mem_map.mp hy) ?_; intro e he zz0
     obtain rfl := zz0
     refine el_EEA (hent e (by simpa using he)) ?_; intro n t ek ev
     have : kf e = n := by simp [kf, ek]
     rw [this]
     refine Classical.byContradiction fun hc => ?_
     rw [hL n hc] at ev
     cases ev
 rw [List.length_map] at hlen
 simpa using hlen
theorem cs_setV {name : PySem.Str} {v : Value} {L : List PySem.Str} {Q : Unit → Shared → Prop} (X : CS s s' D C m cd sl ps) (hL : ∀ x, x ∉ L → m x = none) (hz : L.length ≤ 1000)
   (h : ∀ s'', CS s s'' D C (fun x => if x = name then some v else m x) cd sl ps → Q () s'') : wpAny (model prog w) A (nsSetByValue D name v) Q E s' := by
 unfold nsSetByValue
 refine el_EEEAA (ns1_size X.ns hL) ?_; intro o es ep e1 e2 hes
 refine wpAny_bind (wpAny_loadPart e1 ?_)
 rw [e2]
 dsimp only
 refine wpAny_ite_false ?_ (cs_set X h)
 have : ¬ es.size > sizeLine := by rw [sizeLine_eq]; lia
 simp [this]
theorem gives_object {Q : Bool → Shared → Prop} (h : Q false s') : wpAny (model prog w) A (Builtin.Slots.givesDict (.type "object")) Q E s' := gd_object h
theorem install_ok {bs : List Value} {L : List PySem.Str} {Q : Unit → Shared → Prop} (X : CS s s' D C m cd sl ps) (hb : bs = [.type "object"]) (ho : m objS = none) (hL : ∀ x, x ∉ L → m x = none) (hz : L.length ≤ 1000) (cd' : ClassData) (e : ({ cd with hasDict := false, slotNames := [objS] } : ClassData) = cd')
   (hp : (Data.cls cd').pastItsLine = none)
   (h : ∀ s'' p t, CS s s'' D C (fun x => if x = objS then some (.ref p) else m x) cd' sl ((p, { cls := .type "member_descriptor", data := .fields #[.str objS t, .ref C, .builtin "proto.slot", .builtin "proto.slot#set", .int 0 0] }) :: ps) → Q () s'') :
   wpAny (model prog w) A (Builtin.Slots.install (.ref C) D bs { names := [objS], dict := false, weak := false, inherited := [] }) Q E s' := by
 subst hb
 unfold Builtin.Slots.install
 dsimp only
 simp only [List.forIn_cons, List.forIn_nil]
 refine wpAny_bind (wpAny_bind (wpAny_bind (cs_get X ho ?_)))
 rw [if_pos (by rfl)]
 refine wpAny_bind (wpAny_mkStr ?_ (by decide +kernel))
 unfold newFields
 refine wpAny_bind (wpAny_newObj_type ?_ (by size_fits))
 have X' := X.newP (o := { cls := .type "member_descriptor", data := .fields #[.str objS s'.toks, .ref C, .builtin "proto.slot", .builtin "proto.slot#set", .int 0 0] }) rfl (t := s'.toks + 1)
 refine wpAny_bind (cs_setV (L := L) X' hL hz fun s₂ X₂ => wpAny_pure (wpAny_pure ?_))
 refine wpAny_bind (wpAny_bind (wpAny_bind (gives_object ?_)))
 rw [if_neg (by decide)]
 refine wpAny_pure (wpAny_pure ?_)
 refine wpAny_ite_false (by decide +kernel) ?_
 exact cs_cls' cd' X₂ e hp fun s₃ X₃ => h s₃ _ _ X₃
end
section
variable {prog : Program} {w : World} {A : Around} {E : Value → Shared → Prop} {s s' : Shared} {D C : Addr} {m : PySem.Str → Option Value} {cd : ClassData} {sl : Array (Option Value)} {ps : List (Addr × Obj)}
theorem mro_C {Q : List Value → Shared → Prop} (X : CS s s' D C m cd sl ps) (hmro : cd.mro = [.ref C, .type "object"]) (h : Q [.ref C, .type "object"] s') : wpAny (model prog w) A (mroOf (.ref C)) Q E s' := by
 unfold mroOf
 refine wpAny_bind (cdata_C X (wpAny_pure ?_))
 rw [hmro]; exact h
theorem sub_C {Q : Bool → Shared → Prop} (X : CS s s' D C m cd sl ps) (hmro : cd.mro = [.ref C, .type "object"]) (base : Value) (hb : base = .ref C ∨ base = .type "object") (h : Q true s') : wpAny (model prog w) A (isSubtype (.ref C) base) Q E s' := by
 unfold isSubtype
 refine wpAny_bind (mro_C X hmro ?_)
 dsimp only
 rw [if_neg (by simp)]
 refine wpAny_pure ?_
 rcases hb with rfl | rfl
 · simpa using h
 · have : ([Value.ref C, .type "object"].contains (.type "object")) = true := by simp
   rw [this]; exact h
theorem isType_C {Q : Bool → Shared → Prop} (X : CS s s' D C m cd sl ps) (h : Q true s') : wpAny (model prog w) A (isType (.ref C)) Q E s' := by
 obtain ⟨hh, g, d, t, os⟩ := s'
 exact ks_wpAny_isType_cls X.cls rfl h
theorem super_C {Q : Value → Shared → Prop} (X : CS s s' D C m cd sl ps) (hmro : cd.mro = [.ref C, .type "object"])
   (h : ∀ s'' so, CS s s'' D C m cd sl ps → s''.heap.get? so = some { cls := .type "super", dict := none, data := .fields #[.ref C, .ref C, .ref C], slots := #[] } → so ≠ C → Q (.ref so) s'') :
   wpAny (model prog w) A (call (.type "super") [.ref C, .ref C]) Q E s' := by
 obtain ⟨hh, g, d, t, os⟩ := s'
 refine ks_callType_codesW (Q₁ := fun obj s₁ => obj = .ref hh.objs.size ∧ s₁ = ⟨hh.push { cls := .type "super", data := .fields #[.none, .none, .none] }, g, d, t, os⟩) F.ks_called_super (ks_wpAny_checkTypeCall_super X.cls rfl) F.ks_entry_super_init
   (ks_code_super_new _ _ ⟨rfl, rfl⟩) fun obj s₁ h₁ => ?_
 refine el_A h₁ ?_; try clear h₁; intro zz0 zz1
 obtain rfl := zz0
 obtain rfl := zz1
 have X' : CS s ⟨hh.push { cls := .type "super", data := .fields #[.none, .none, .none] }, g, d, t, os⟩ D C m cd sl ps := X.upS (Up.push (s := ⟨hh, g, d, t, os⟩) _ t)
 have hso : (hh.push { cls := .type "super", data := .fields #[.none, .none, .none] }).get? hh.objs.size = some { cls := .type "super", dict := none, data := .fields #[.none, .none, .none], slots := #[] } := Heap.get?_push_at rfl rfl
 refine ⟨⟨_, hso, rfl⟩, F.ks_initArgs_super _ _ _, ?_⟩
 have fin : ∀ h' : Heap, h'.get? hh.objs.size = some { cls := .type "super", dict := none, data := .fields #[.ref C, .ref C, .ref C], slots := #[] } → Heap.SameBut hh.objs.size (hh.push { cls := .type "super", data := .fields #[.none, .none, .none] }) h' → Q (.ref hh.objs.size) ⟨h', g, d, t, os⟩ := by
   intro h' e hs
   refine h _ _ ⟨⟨⟨X.up.st.gens, X.up.st.drawn, X.up.st.os⟩, fun b o e' => ?_, ?_⟩, ?_, ?_, X.dz, X.cz, X.ne, fun p hp => ⟨?_, (X.oth p hp).2⟩⟩ e (Nat.ne_of_gt (Heap.lt_size X.cls))
   · have e2 := X.up.keep b o e'
     exact (hs.2 b (Nat.ne_of_lt (Heap.lt_size e2))).trans (Heap.get?_push_of_some _ e2)
   · show s.heap.objs.size ≤ h'.objs.size
     rw [hs.1, Heap.size_push]; exact Nat.le_succ_of_le X.up.size
   · exact (hs.2 C (Nat.ne_of_lt (Heap.lt_size X.cls))).trans X'.cls
   · exact X'.ns.sameBut hs (Nat.ne_of_lt X.ns.ns.lt)
   · exact (hs.2 _ (Nat.ne_of_lt (Heap.lt_size (X.oth p hp).1))).trans (X'.oth p hp).1
 unfold Builtin.«super.__init__» noKeywords
 have set3 : ∀ {A : Around} {E : Value → Shared → Prop} {Q' : Fin → Shared → Prop}, (∀ h' : Heap, h'.get? hh.objs.size = some { cls := .type "super", dict := none, data := .fields #[.ref C, .ref C, .ref C], slots := #[] } → Heap.SameBut hh.objs.size (hh.push { cls := .type "super", data := .fields #[.none, .none, .none] }) h' → Q' (.done (.ret .none)) ⟨h', g, d, t, os⟩) →
     wpAny (model prog w) A (do setField (.ref hh.objs.size) 0 (.ref C); setField (.ref hh.objs.size) 1 (.ref C); setField (.ref hh.objs.size) 2 (.ref C); ret .none) Q' E ⟨hh.push { cls := .type "super", data := .fields #[.none, .none, .none] }, g, d, t, os⟩ := by
   intro A E Q' hq
   refine wpAny_bind (wpAny_setField_rec hso (by simp) fun h1 e1 s1 => ?_)
   refine wpAny_bind (wpAny_setField_rec e1 (by simp) fun h2 e2 s2 => ?_)
   refine wpAny_bind (wpAny_setField_rec e2 (by simp) fun h3 e3 s3 => ?_)
   exact wpAny_pure (hq h3 (by simpa using e3) ⟨(s3.1.trans s2.1).trans s1.1, fun b hb => ((s3.2 b hb).trans (s2.2 b hb)).trans (s1.2 b hb)⟩)
 repeat (first | (exists isType_C X' ?_) | (exists sub_C X' hmro _ (.inl rfl) ?_) | (exists set3 ?_) | wp_step)
 all_goals first
   | (intro h' e k; exact ⟨rfl, fin h' e k⟩)
   | (refine set3 ?_; intro h' e k; exact ⟨rfl, fin h' e k⟩)
   | trace_state
end
theorem owner_is : (kfb_private% "ownerAndName") "object.__init_subclass__" = ("object", "__init_subclass__") := by first | decide +kernel | kernel_rfl
theorem type_is : typeOf (.builtin "object.__init_subclass__") = pure (.type "classmethod_descriptor") := by show builtinType _ = _; rw [builtinType_eq_fast]; kernel_rfl
theorem own_is : classOwn (.type "object") "__init_subclass__" = pure (some (.builtin "object.__init_subclass__")) := PySem.F.own_object (by kernel_rfl)
theorem entry_is : entryFor table "object.__init_subclass__" = some Builtin.«object.__init_subclass__» := entryFor_of_tree (by kernel_rfl)
noncomputable abbrev boundI (C : Addr) : Obj := { cls := .type "builtin_function_or_method", data := .fields #[.builtin "object.__init_subclass__", .ref C] }
noncomputable def NoThird (h : Heap) : Prop := ∃ ms, h.Ns cStatics ms ∧ ms (Str.ofString "thirdparty.any") = none
section
variable {prog : Program} {w : World} {A : Around} {E : Value → Shared → Prop} {s s' : Shared} {D C : Addr} {m : PySem.Str → Option Value} {cd : ClassData} {sl : Array (Option Value)} {ps : List (Addr × Obj)}
theorem cmget_C {P : Fin → Shared → Prop} (X : CS s s' D C m cd sl ps) (hmro : cd.mro = [.ref C, .type "object"]) (h : P (.done (.ret (.ref s'.heap.objs.size))) { s' with heap := s'.heap.push (boundI C) }) :
   wpAny (model prog w) A (Builtin.«classmethod_descriptor.__get__» ⟨[.builtin "object.__init_subclass__", .none, .ref C], []⟩) P E s' := by
 unfold Builtin.«classmethod_descriptor.__get__»
 refine wpAny_bind (wpAny_of_eq (a := (.builtin "object.__init_subclass__", none, some (.ref C))) (by first | rfl | kernel_rfl) ?_)
 simp only [owner_is]
 refine wpAny_bind (wpAny_of_eq (a := .ref C) rfl ?_)
 refine wpAny_bind (isType_C X ?_)
 refine wpAny_ite_false (by decide) ?_
 refine wpAny_bind (sub_C X hmro _ (.inr rfl) ?_)
 refine wpAny_ite_false (by decide) ?_
 exact wpAny_bind (wpAny_newObj_type (wpAny_pure h))
theorem opq_C {Q : Option PySem.Str → Shared → Prop} (X : CS s s' D C m cd sl ps) (hst : NoThird s.heap) (h : Q none s') : wpAny (model prog w) A (opaqueClassAbove (.ref C)) Q E s' := by
 unfold opaqueClassAbove
 dsimp only
 refine el_EA hst ?_; try clear hst; intro ms h1 h2
 refine wpAny_bind ?_
 unfold anyOpaqueLoaded
 refine wpAny_bind (wpAny_nsGet (h1.keeps X.up.keep) ?_)
 rw [h2]
 exact wpAny_pure (wpAny_ite_true (by decide) (wpAny_pure h))
theorem supga_C {so : Addr} {tk : Tok} {Q : Fin → Shared → Prop} (X : CS s s' D C m cd sl ps) (hst : NoThird s.heap) (hmro : cd.mro = [.ref C, .type "object"]) (hso : s'.heap.get? so = some { cls := .type "super", dict := none, data := .fields #[.ref C, .ref C, .ref C], slots := #[] })
   (hq : ∀ s'' b, CS s s'' D C m cd sl ps → s''.heap.get? b = some (boundI C) → Q (.done (.ret (.ref b))) s'') :
   wpAny (model prog w) A (Builtin.«super.__getattribute__» ⟨[.ref so, .str (Str.ofString "__init_subclass__") tk], []⟩) Q E s' := by
 have hdt : ({ cls := .type "super", dict := none, data := .fields #[.ref C, .ref C, .ref C], slots := #[] } : Obj).data = .fields #[.ref C, .ref C, .ref C] := rfl
 have f0 : (#[.ref C, .ref C, .ref C] : Array Value)[0]? = some (.ref C) := rfl
 have f1 : (#[.ref C, .ref C, .ref C] : Array Value)[1]? = some (.ref C) := rfl
 have f2 : (#[.ref C, .ref C, .ref C] : Array Value)[2]? = some (.ref C) := rfl
 have hdw : (([Value.ref C, .type "object"].dropWhile (· != .ref C)).drop 1) = [.type "object"] := by
   have h1 : (Value.ref C != Value.ref C) = false := by simp
   simp only [List.dropWhile, h1, List.drop]
 obtain ⟨hh, g, d, t, os⟩ := s'
 have hnot : ∀ {what how : String} {A : Around} {E : Value → Shared → Prop} {Q : Unit → Shared → Prop}, Q () ⟨hh, g, d, t, os⟩ → wpAny (model prog w) A (notOfAnOpaqueClass what how (.ref C)) Q E ⟨hh, g, d, t, os⟩ := by
   intro what how A E Q hq
   unfold notOfAnOpaqueClass
   refine wpAny_bind (opq_C X hst ?_)
   exact wpAny_pure hq
 have h_own := own_is
 have h_ty := type_is
 have h_get := KFB.slot_get.lookup
 have hcc : (Value.ref C == Value.ref C) = true := by simp
 unfold Builtin.«super.__getattribute__»
 repeat (first
   | (exists wpAny_field hso hdt f0 ?_) | (exists wpAny_field hso hdt f1 ?_) | (exists wpAny_field hso hdt f2 ?_)
   | (exists hnot ?_)
   | (exists mro_C X hmro ?_; rw [hdw])
   | wp_step
   | dsimp only)
 rw [if_pos hcc]
 refine codeAny_call_builtin KFB.slot_get.plain KFB.entry_get (KFB.slot_get.check _ _ _ _ _ _ _ _ type_is (KFB.args_get _ _ _) ?_)
 refine cmget_C X hmro ?_
 refine wpAny_bind (wpAny_pure (wpAny_pure (wpAny_pure (wpAny_pure ?_))))
 exact hq _ _ (X.upS (Up.push (s := ⟨hh, g, d, t, os⟩) _ t)) (Heap.get?_push_size _ rfl)
end
noncomputable abbrev sigI : Manifest.Signature := ⟨.noArgs, "object.__init_subclass__", "__init_subclass__", .cls, []⟩
noncomputable abbrev qnK : PySem.Str := Str.ofString "cmp_to_key.<locals>.K"
theorem sig_is : Manifest.signature? "object.__init_subclass__" = some sigI := by kernel_rfl
theorem kind_is : builtinKind "object.__init_subclass__" = some .classMethod := by decide +kernel
theorem chk_is (C : Addr) : Bind.checkArgs "object.__init_subclass__" { machinery := sigI.machinery, full := toString qnK.toString ++ toString "." ++ toString (Bind.lastOf "object.__init_subclass__"), short := sigI.short, receiver := sigI.receiver, params := sigI.params } ⟨[.ref C], []⟩ = pure () := by kernel_rfl
theorem sub_type_module : isSubtype (.type "type") (.type "module") = pure false := by rw [isSubtype_type]; kernel_rfl
section
variable {prog : Program} {w : World} {A : Around} {E : Value → Shared → Prop} {s s' : Shared} {D C : Addr} {m : PySem.Str → Option Value} {cd : ClassData} {sl : Array (Option Value)} {ps : List (Addr × Obj)}
theorem getsup_C {so : Addr} {Q : Value → Shared → Prop} (X : CS s s' D C m cd sl ps) (hst : NoThird s.heap) (hmro : cd.mro = [.ref C, .type "object"]) (hso : s'.heap.get? so = some { cls := .type "super", dict := none, data := .fields #[.ref C, .ref C, .ref C], slots := #[] })
   (hq : ∀ s'' b, CS s s'' D C m cd sl ps → s''.heap.get? b = some (boundI C) → Q (.ref b) s'') :
   wpAny (model prog w) A (getAttr (.ref so) (Str.ofString "__init_subclass__")) Q E s' := by
 have hlk := F.ks_slot_super_ga.lookup
 obtain ⟨h, g, d, t, os⟩ := s'
 have hT : ∀ t', (⟨h, g, d, t', os⟩ : Shared).TypeIs (.ref so) "super" := fun _ => ⟨_, hso, rfl⟩
 unfold getAttr getAttrBy
 refine wpAny_bind (wpAny_mkText (wpAny_holding (wpAny_bind (wpAny_typeOf (hT _) (wpAny_bind (wpAny_of_eq hlk ?_))))))
 show wpAny _ _ (getAttrByItsOwn (.ref so) (.str (Str.ofString "__init_subclass__") t) (.type "super") (.builtin "super.__getattribute__") true false) _ _ _
 unfold getAttrByItsOwn hookBefore callGetattribute boundAndCalled
 refine wpAny_bind (wpAny_of_eq (show (if onTheHeap (.type "super") then typeLookup (.type "super") "__getattr__" else pure none) = pure none from rfl) ?_)
 refine wpAny_bind (wpAny_attempt (wpAny_holding ?_))
 show wpAny _ _ (bindSpecial (.builtin "super.__getattribute__") (.ref so) >>= _) _ _ _
 refine wpAny_bind (wpAny_of_eq (F.ks_slot_super_ga.bind _) ?_)
 have X' : CS s ⟨h, g, d, t + 1, os⟩ D C m cd sl ps := X.upS (Up.toks (s := ⟨h, g, d, t, os⟩) _)
 refine wpAny_mono (Q := fun v s'' => ∃ b, v = .ref b ∧ CS s s'' D C m cd sl ps ∧ s''.heap.get? b = some (boundI C)) (E := fun _ _ => False)
   (wpAny_call_entry F.ks_slot_super_ga (hT _) F.ks_entry_super_ga (supga_C X' hst hmro hso fun s'' b Y hb => ⟨_, rfl, b, rfl, Y, hb⟩) (F.ks_gaArgs_super _ _)) (fun v s'' hv => ?_) fun _ _ z => z.elim
 refine el_EAA hv ?_; try clear hv; intro b zz0 Y hb
 obtain rfl := zz0
 exact wpAny_pure (hq _ _ Y hb)
theorem callinit_C {b : Addr} {Q : Value → Shared → Prop} (X : CS s s' D C m cd sl ps) (hqn : cd.qualname = qnK) (hb : s'.heap.get? b = some (boundI C)) (hq : Q .none s') : wpAny (model prog w) A (call (.ref b) []) Q E s' := by
 refine wpAny_call (codeAny_of_tree ?_)
 show wpAny _ _ (callAny (.ref b) _) _ _ _
 unfold callAny
 refine wpAny_bind (wpAny_load hb ?_)
 dsimp only
 rw [if_pos (by decide)]
 show wpAny _ _ (do checkBoundCall "object.__init_subclass__" ⟨[.ref C], []⟩; again (.builtin "object.__init_subclass__" ⟨[.ref C], []⟩)) _ _ _
 refine wpAny_bind ?_
 have htC : s'.TypeIs (.ref C) "type" := ⟨_, X.cls, rfl⟩
 unfold checkBoundCall
 rw [sig_is]
 dsimp only
 rw [kind_is]
 dsimp only
 refine wpAny_ite_false (by decide) ?_
 refine wpAny_bind (wpAny_isInstance htC sub_type_module ?_)
 refine wpAny_ite_false (by decide +kernel) ?_
 refine wpAny_bind (isType_C X ?_)
 refine wpAny_ite_true (by decide) ?_
 refine wpAny_bind (wpAny_pure ?_)
 dsimp only
 refine wpAny_bind (cdata_C X ?_)
 refine wpAny_bind (wpAny_typeOf htC ?_)
 refine wpAny_ite_true (by decide) ?_
 rw [hqn]
 refine wpAny_of_eq (chk_is C) ?_
 refine wpAny_pure ⟨by kernel_rfl, codeAny_builtin entry_is ?_⟩
 unfold Builtin.«object.__init_subclass__»
 dsimp only
 refine wpAny_ite_true (by rfl) ?_
 refine wpAny_bind (wpAny_pure (wpAny_pure ?_))
 exact hq
end
section
variable {M : Model} {A : Around} {E : Value → Shared → Prop} {s : Shared}
theorem sb_self {T : String} {Q : Bool → Shared → Prop} (e : isSubtype (.type T) (.type T) = pure true) (h : Q true s) : wpAny M A (isSubtype (.type T) (.type T)) Q E s := wpAny_of_eq e h
theorem sub_tuple : isSubtype (.type "tuple") (.type "tuple") = pure true := by rw [isSubtype_type]; kernel_rfl
theorem sub_dict : isSubtype (.type "dict") (.type "dict") = pure true := by rw [isSubtype_type]; kernel_rfl
theorem sub_type : isSubtype (.type "type") (.type "type") = pure true := by rw [isSubtype_type]; kernel_rfl
theorem sub_object : isSubtype (.type "object") (.type "object") = pure true := by rw [isSubtype_type]; kernel_rfl
theorem dict_iter : typeLookup (.type "dict") "__iter__" = pure (some (.builtin "dict.__iter__")) := by rw [typeLookup_type, builtinLookup_eq_fast]; kernel_rfl
theorem turned_object : Builtin.notOverATurnedClass [.type "object"] = pure () := by with_unfolding_all rfl
theorem ext_object : Builtin.extendedBase [.type "object"] = pure (.type "object") := by kernel_rfl
theorem forIn_one {α β : Type} {l : List α} {x : α} {b : β} {f : α → β → Sem (ForInStep β)} {Q : β → Shared → Prop} (hl : l = [x]) (h : wpAny M A (f x b) (fun r s' => match r with | .done b' => Q b' s' | .yield b' => Q b' s') E s) : wpAny M A (forIn l b f) Q E s := by
 subst hl
 rw [List.forIn_cons]
 refine wpAny_bind (wpAny_mono h (fun r s' hr => ?_) fun _ _ e => e)
 cases r with
 | done b' => exact wpAny_pure hr
 | yield b' => show wpAny M A (forIn [] b' f) Q E s'; rw [List.forIn_nil]; exact wpAny_pure hr
theorem forIn_same {α β : Type} {b : β} {f : α → β → Sem (ForInStep β)} {Q : β → Shared → Prop} : ∀ {l : List α}, (∀ x ∈ l, ∀ Q' : ForInStep β → Shared → Prop, Q' (.yield b) s → wpAny M A (f x b) Q' E s) → Q b s → wpAny M A (forIn l b f) Q E s
 | [], _, hq => by rw [List.forIn_nil]; exact wpAny_pure hq
 | x :: l, h, hq => by
   rw [List.forIn_cons]
   exact wpAny_bind (h x (.head _) _ (forIn_same (fun y hy => h y (.tail _ hy)) hq))
theorem ob_isType {Q : Bool → Shared → Prop} (h : Q true s) : wpAny M A (isType (.type "object")) Q E s := wpAny_of_eq rfl h
theorem ob_typeOf {Q : Value → Shared → Prop} (h : Q (.type "type") s) : wpAny M A (typeOf (.type "object")) Q E s := wpAny_of_eq rfl h
theorem ob_turned {bs : List Value} {Q : Unit → Shared → Prop} (e : bs = [.type "object"]) (h : Q () s) : wpAny M A (Builtin.notOverATurnedClass bs) Q E s := e ▸ wpAny_of_eq turned_object h
theorem ob_ext {bs : List Value} {Q : Value → Shared → Prop} (e : bs = [.type "object"]) (h : Q (.type "object") s) : wpAny M A (Builtin.extendedBase bs) Q E s := e ▸ wpAny_of_eq ext_object h
theorem ent_ok {a : Addr} {o : Obj} {es : Array DictEntry} {n : Nat} {part : Option Value} {Q : Array DictEntry → Shared → Prop} (ho : s.heap.get? a = some o) (hd : o.data = .dict es n) (h : Q es s) : wpAny M A (dictEntries a part) Q E s := by
 unfold dictEntries
 refine wpAny_bind (wpAny_loadPart ho ?_)
 rw [hd]
 exact wpAny_pure h
theorem forIn_sameA {α β : Type} {b : β} {f : α → β → Sem (ForInStep β)} {Q : β → Shared → Prop} {a : Array α} (h : ∀ x ∈ a, ∀ Q' : ForInStep β → Shared → Prop, Q' (.yield b) s → wpAny M A (f x b) Q' E s) (hq : Q b s) : wpAny M A (forIn a b f) Q E s := by
 obtain ⟨l⟩ := a
 rw [List.forIn_toArray]
 exact forIn_same (fun x hx => h x (by simpa using hx)) hq
noncomputable def tame (h : Heap) (v : Value) : Prop := (∃ x t, v = .str x t) ∨ (∃ n t, v = .int n t) ∨ v = .none ∨ ∃ b o T, v = .ref b ∧ h.get? b = some o ∧ o.cls = .type T ∧ T ∈ (["list", "tuple", "function", "member_descriptor"] : List String)
theorem tame.keeps {h h' : Heap} {v : Value} (x : tame h v) (k : Keep h h') : tame h' v := by
 rcases x with x | x | x | ⟨b, o, T, e1, e2, e3, e4⟩
 · exact .inl x
 · exact .inr (.inl x)
 · exact .inr (.inr (.inl x))
 · exact .inr (.inr (.inr ⟨b, o, T, e1, k _ _ e2, e3, e4⟩))
theorem sn_str : typeLookup (.type "str") "__set_name__" = pure none := by rw [typeLookup_type, builtinLookup_eq_fast]; kernel_rfl
theorem sn_int : typeLookup (.type "int") "__set_name__" = pure none := by rw [typeLookup_type, builtinLookup_eq_fast]; kernel_rfl
theorem sn_none : typeLookup (.type "NoneType") "__set_name__" = pure none := by rw [typeLookup_type, builtinLookup_eq_fast]; kernel_rfl
theorem sn_list : typeLookup (.type "list") "__set_name__" = pure none := by rw [typeLookup_type, builtinLookup_eq_fast]; kernel_rfl
theorem sn_tuple : typeLookup (.type "tuple") "__set_name__" = pure none := by rw [typeLookup_type, builtinLookup_eq_fast]; kernel_rfl
theorem sn_function : typeLookup (.type "function") "__set_name__" = pure none := by rw [typeLookup_type, builtinLookup_eq_fast]; kernel_rfl
theorem sn_member : typeLookup (.type "member_descriptor") "__set_name__" = pure none := by rw [typeLookup_type, builtinLookup_eq_fast]; kernel_rfl
theorem tame_special {v : Value} {Q : Option Value → Shared → Prop} (x : tame s.heap v) (h : Q none s) : wpAny M A (specialOf v (Str.ofString "__set_name__")) Q E s := by
 rcases x with ⟨_, _, rfl⟩ | ⟨_, _, rfl⟩ | rfl | ⟨b, o, T, rfl, e2, e3, e4⟩
 · exact wpAny_specialOf (T := "str") (typeIs_str _ _ _) sn_str h
 · exact wpAny_specialOf (T := "int") rfl sn_int h
 · exact wpAny_specialOf (T := "NoneType") rfl sn_none h
 · have hT : s.TypeIs (.ref b) T := ⟨o, e2, e3⟩
   simp only [List.mem_cons, List.not_mem_nil, or_false] at e4
   rcases e4 with rfl | rfl | rfl | rfl
   · exact wpAny_specialOf hT sn_list h
   · exact wpAny_specialOf hT sn_tuple h
   · exact wpAny_specialOf hT sn_function h
   · exact wpAny_specialOf hT sn_member h
theorem tame_laid {h : Heap} {v kv : Value} (x : tame h v) : Builtin.laidUnderItsOwnName kv v = false := by
 rcases x with ⟨_, _, rfl⟩ | ⟨_, _, rfl⟩ | rfl | ⟨b, o, T, rfl, _⟩ <;> cases kv <;> rfl
end
section
variable {prog : Program} {w : World} {A : Around} {E : Value → Shared → Prop} {s : Shared}
theorem nsG {a : Addr} {m : PySem.Str → Option Value} {name : PySem.Str} {r : Option Value} {Q : Option Value → Shared → Prop} (hn : s.heap.Ns1 a m) (hv : m name = r) (h : Q r s) : wpAny (model prog w) A (nsGet a name) Q E s := wpAny_nsGet hn.ns (by rw [hv]; exact h)
theorem read_bases {bs : List Value} {es : Array DictEntry} {k : Int} {kv : Value} {Ls : Addr} {u : Tok} {Q : Builtin.Slots.Plan → Shared → Prop} (e : bs = [.type "object"]) (hs : es.find? (fun e => e.key.isStr (Str.ofString "__slots__")) = some ⟨k, kv, .ref Ls⟩) (ho : es.any (fun e => e.key.isStr objS) = false)
 (hl : s.heap.IsList Ls #[.str objS u]) (h : ∀ s', Up s s' → Q { names := [objS], dict := false, weak := false, inherited := [] } s') : wpAny (model prog w) A (Builtin.Slots.read (Str.ofString "K") bs es) Q E s := e ▸ read_ok hs ho hl h
noncomputable abbrev keysK : List PySem.Str := ["__module__", "__qualname__", "__firstlineno__", "__slots__", "__init__", "__lt__", "__gt__", "__eq__", "__le__", "__ge__", "__hash__", "__static_attributes__"]
theorem hook_type : Builtin.mroHook? (.type "type") = pure none := by
 unfold Builtin.mroHook?
 rw [show typeLookup (.type "type") (Str.ofString "mro") = pure (some (.builtin "type.mro")) from by rw [typeLookup_type, builtinLookup_eq_fast]; kernel_rfl]
 rfl
theorem lin_object {bs : List Value} {Q : List Value → Shared → Prop} (e : bs = [.type "object"]) (h : Q [.type "object"] s) : wpAny (model prog w) A (Builtin.linearize bs mroOf) Q E s := by
 subst e
 exact wpAny_of_eq (by kernel_rfl) h
theorem filter_self (C : Addr) : List.filter (fun x => x != Value.ref C) [Value.ref C, .type "object"] = [.type "object"] := by
 have h1 : (Value.ref C != Value.ref C) = false := by simp
 have h2 : (Value.type "object" != Value.ref C) = true := by simp
 simp only [List.filter, h1, h2]
noncomputable abbrev memK (C : Addr) (t : Tok) : Obj := { cls := .type "member_descriptor", data := .fields #[.str objS t, .ref C, .builtin "proto.slot", .builtin "proto.slot#set", .int 0 0] }
theorem note_object {a : Addr} {Q : Unit → Shared → Prop} (h : Q () s) : wpAny (model prog w) A (Builtin.noteSubclassOfBuiltin "object" a) Q E s := by
 unfold Builtin.noteSubclassOfBuiltin
 exact wpAny_ite_true (by decide +kernel) (wpAny_pure h)
theorem made_object : Bind.madeBy (.type "object") = pure (some "object.__new__") := by kernel_rfl
noncomputable abbrev cdK (C D : Addr) (qn : PySem.Str) : ClassData := { name := Str.ofString "K", bases := [.type "object"], mro := [.ref C, .type "object"], ns := D, qualname := qn, hasDel := false }
noncomputable abbrev cdK' (C D : Addr) (qn : PySem.Str) : ClassData := { name := Str.ofString "K", bases := [.type "object"], mro := [.ref C, .type "object"], ns := D, qualname := qn, hasDel := false, hasDict := false, slotNames := [objS] }
theorem tn_ok {N T Ls : Addr} {es : Array DictEntry} {nN nT : Nat} {m : PySem.Str → Option Value} {k : Int} {kv : Value} {u u6 : Tok} {Q : Fin → Shared → Prop}
   {oN : Obj} (hN : s.heap.get? N = some oN) (hNc : oN.cls = .type "dict") (hNd : oN.data = .dict es nN) (hns : s.heap.Ns1 N m) (hez : es.size ≤ 1000) {tq : Tok} (hmq : m (Str.ofString "__qualname__") = some (.str qnK tq)) (hno : ∀ x, x ∉ keysK → m x = none) {veq vha : Value} (hmeq : m (Str.ofString "__eq__") = some veq) (hmha : m (Str.ofString "__hash__") = some vha) (hT : s.heap.get? T = some { cls := .type "tuple", data := .seq #[.type "object"] nT })
   (hN1 : (N == sysModules) = false) (hes : es.find? (fun e => e.key.isStr (Str.ofString "__slots__")) = some ⟨k, kv, .ref Ls⟩) (hed : es.any (fun e => e.key.isStr (Str.ofString "__del__")) = false) (heo : es.any (fun e => e.key.isStr objS) = false) (hem : es.any (fun e => e.key.isStr (Str.ofString "__module__")) = true)
   (hl : s.heap.IsList Ls #[.str objS u]) (hst : NoThird s.heap) (htame : ∀ x v, m x = some v → tame s.heap v)
   (hQ : ∀ s' D C p tp m', CS s s' D C m' (cdK' C D qnK) #[some (.ref T), none, some (.str (Str.ofString "K") u6), some (.str qnK tq), some (.builtin "object.__new__"), some (.bool false)] [(p, memK C tp)] →
     (∀ x, x ≠ Str.ofString "__qualname__" → x ≠ objS → x ≠ Str.ofString "__doc__" → m' x = m x) → m' objS = some (.ref p) → Q (.done (.ret (.ref C))) s') :
   wpAny (model prog w) A (Builtin.«type.__new__» ⟨[.type "type", .str (Str.ofString "K") u6, .ref T, .ref N], []⟩) Q E s := by
 have htT : s.TypeIs (.ref T) "tuple" := ⟨_, hT, rfl⟩
 have htN : s.TypeIs (.ref N) "dict" := ⟨_, hN, hNc⟩
 unfold Builtin.«type.__new__»
 exists wpAny_bind (wpAny_of_eq (a := some (Str.ofString "K")) rfl ?_)
 exists wpAny_bind (wpAny_isInstance (T := "tuple") htT sub_tuple ?_)
 exists wpAny_ite_false (by decide) ?_
 exists wpAny_bind (wpAny_isInstance (T := "dict") htN sub_dict ?_)
 exists wpAny_ite_false (by decide) ?_
 exists wpAny_bind (wpAny_seqItems hT rfl ?_)
 exists wpAny_ite_false (by decide) ?_
 exists wpAny_bind (forIn_one (x := .type "object") (by trivial) ?_)
 exists wpAny_bind (ob_isType ?_)
 exists wpAny_ite_false (by decide) ?_
 exists wpAny_pure ?_
 exists wpAny_bind (forIn_one (x := .type "object") (by trivial) ?_)
 exists wpAny_bind (ob_typeOf ?_)
 exists wpAny_bind (wpAny_of_eq sub_type ?_)
 exists wpAny_ite_true (by decide) ?_
 exists wpAny_pure ?_
 exists wpAny_ite_false (by decide +kernel) ?_
 exists wpAny_bind (ob_turned (by trivial) ?_)
 exists wpAny_bind (ob_ext (by trivial) ?_)
 exists wpAny_ite_false (by rw [hN1]; decide) ?_
 exists wpAny_bind (ent_ok hN hNd ?_)
 exists wpAny_bind (wpAny_specialOf htN dict_iter ?_)
 exists wpAny_ite_true (by simp) ?_
 exists wpAny_bind (wpAny_pure ?_)
 exists wpAny_bind (wpAny_holding ?_)
 refine read_bases (by trivial) hes heo hl fun s₁ u₁ => ?_
 refine wpAny_bind (wpAny_newObj_type ?_ (by show es.size ≤ _; rw [sizeLine_eq]; lia))
 have hD : (s₁.heap.push { cls := .type "dict", dict := none, data := .dict es }).get? s₁.heap.objs.size = some { cls := .type "dict", dict := none, data := .dict es } := Heap.get?_push_size _ rfl
 have hD1 : (s₁.heap.push { cls := .type "dict", dict := none, data := .dict es }).Ns1 s₁.heap.objs.size m := by
   refine el_EEEAA hns ?_; try clear hns; intro o es' ep e1 e2 e3
   rw [hN] at e1
   cases e1
   rw [hNd] at e2
   cases e2
   exact ⟨_, _, _, hD, rfl, e3⟩
 have u₂ : Up s { s₁ with heap := s₁.heap.push { cls := .type "dict", dict := none, data := .dict es } } := u₁.trans (Up.push (s := s₁) _ s₁.toks)
 have hDz : s.heap.objs.size ≤ s₁.heap.objs.size := u₁.size
 generalize hs₂ : ({ s₁ with heap := s₁.heap.push { cls := .type "dict", dict := none, data := .dict es } } : Shared) = s₂ at u₂ ⊢
 have e₂ : s₁.heap.push { cls := .type "dict", dict := none, data := .dict es } = s₂.heap := by rw [← hs₂]
 rw [e₂] at hD hD1
 clear hs₂ e₂
 generalize s₁.heap.objs.size = D at hD hD1 hDz ⊢
 exists wpAny_ite_false (by show (decide ((!(es.any fun e => e.key.isStr (Str.ofString "__module__"))) = true)) = false; rw [hem]; decide) ?_
 exists wpAny_bind (wpAny_ite_false (by decide +kernel) (wpAny_pure ?_))
 exists wpAny_ite_false (by decide +kernel) ?_
 exists wpAny_bind (nsG hD1 hmq ?_)
 exists wpAny_bind (nsG hD1 hmq ?_)
 exists wpAny_bind (wpAny_of_eq (a := some qnK) rfl ?_)
 exists wpAny_bind (wpAny_pure ?_)
 exists wpAny_bind (nsG hD1 (hno _ (by decide +kernel)) ?_)
 exists wpAny_bind (wpAny_alloc ?_)
 have hc0 : CS s { s₂ with heap := s₂.heap.push { cls := .type "type", data := .cls { name := Str.ofString "K", bases := [.type "object"], mro := [], ns := D, qualname := qnK } } } D s₂.heap.objs.size m { name := Str.ofString "K", bases := [.type "object"], mro := [], ns := D, qualname := qnK } #[] [] :=
   ⟨u₂.trans (Up.push (s := s₂) _ s₂.toks), Heap.get?_push_size _ rfl, hD1.at fun o e => Heap.get?_push_of_some _ e, hDz, u₂.size, Nat.ne_of_lt hD1.ns.lt, fun _ h => nomatch h⟩
 have hgoal : ∀ C s₃, CS s s₃ D C m { name := Str.ofString "K", bases := [.type "object"], mro := [], ns := D, qualname := qnK } #[] [] → True := fun _ _ _ => trivial
 generalize hC : s₂.heap.objs.size = C at hc0 ⊢
 clear hC hgoal
 change CS s { s₂ with heap := s₂.heap.push { cls := .type "type", data := .cls { name := Str.ofString "K", bases := (if ((some #[Value.type "object"]).getD #[]).toList.isEmpty = true then [Value.type "object"] else ((some #[Value.type "object"]).getD #[]).toList), mro := [], ns := D, qualname := qnK } } } D C m _ #[] [] at hc0
 generalize ({ s₂ with heap := s₂.heap.push { cls := .type "type", data := .cls { name := Str.ofString "K", bases := (if ((some #[Value.type "object"]).getD #[]).toList.isEmpty = true then [Value.type "object"] else ((some #[Value.type "object"]).getD #[]).toList), mro := [], ns := D, qualname := qnK } } } : Shared) = s₃ at hc0 ⊢
 clear hD hD1 hDz u₂ u₁
 exists wpAny_ite_true (by decide) ?_
 exists wpAny_bind (cs_slot' #[some (.ref T)] hc0 (by decide) (by kernel_rfl) fun s₄ hc4 => ?_)
 exists wpAny_bind (cs_slot' #[some (.ref T), none, some (.str (Str.ofString "K") u6)] hc4 (by decide) (by kernel_rfl) fun s₅ hc5 => ?_)
 refine wpAny_bind (cs_slot' (v := some (.str qnK tq)) #[some (.ref T), none, some (.str (Str.ofString "K") u6), some (.str qnK tq)] hc5 (by decide) (by kernel_rfl) fun s₆ hc6 => ?_)
 exists wpAny_bind (cs_del hc6 fun s₇ hc7 => ?_)
 have hn1 : ∀ x, x ∉ keysK → (fun x => if x = Str.ofString "__qualname__" then none else m x) x = none := by
   intro x hx
   dsimp only
   split
   · rfl
   · exact hno x hx
 exists wpAny_bind (cs_get hc7 (r := none) (hn1 _ (by decide +kernel)) ?_)
 refine wpAny_bind (forIn_same (fun x hx Q' hQ' => ?_) ?_)
 · refine wpAny_bind (cs_get hc7 (r := none) (hn1 _ ?_) (wpAny_pure hQ'))
   rcases List.mem_cons.mp hx with rfl | hx
   · decide +kernel
   · rw [List.mem_singleton.mp hx]; decide +kernel
 exists wpAny_bind (cs_get hc7 (r := none) (hn1 _ (by decide +kernel)) ?_)
 exists wpAny_bind (cs_get hc7 (r := none) (hn1 _ (by decide +kernel)) ?_)
 exists wpAny_bind (wpAny_of_eq hook_type ?_)
 exists wpAny_bind (lin_object (by trivial) ?_)
 exists wpAny_bind (wpAny_pure ?_)
 exists wpAny_bind (anyM_one (x := .type "object") (filter_self C) (wpAny_of_eq (a := false) (by kernel_rfl) ?_))
 exists wpAny_bind (cs_cls' (cdK C D qnK) hc7 (by show ClassData.mk .. = _; simp only [hed]; kernel_rfl) (by kernel_rfl) fun s₈ hc8 => ?_)
 exists wpAny_bind (wpAny_of_eq made_object ?_)
 exists wpAny_bind (cs_slot' #[some (.ref T), none, some (.str (Str.ofString "K") u6), some (.str qnK tq), some (.builtin "object.__new__")] hc8 (by decide) (by kernel_rfl) fun s₉ hc9 => ?_)
 exists wpAny_bind (refresh_ok (v := .builtin "object.__new__") hc9 rfl rfl (hn1 _ (by decide +kernel)) (by kernel_rfl) ?_)
 exists wpAny_bind (install_ok (L := keysK) hc9 (by trivial) (hn1 _ (by decide +kernel)) hn1 (by decide) (cdK' C D qnK) rfl (by kernel_rfl) fun s₁₀ p tp hc10 => ?_)
 exists wpAny_bind (gw_object ?_)
 exists wpAny_bind (cs_slot' #[some (.ref T), none, some (.str (Str.ofString "K") u6), some (.str qnK tq), some (.builtin "object.__new__"), some (.bool false)] hc10 (by decide) (by kernel_rfl) fun s₁₁ hc11 => ?_)
 exists wpAny_ite_false (by decide) ?_
 exists wpAny_ite_false (by decide) ?_
 have hd2 : (fun x => if x = objS then some (Value.ref p) else (if x = Str.ofString "__qualname__" then none else m x)) (Str.ofString "__doc__") = none := by
   dsimp only
   rw [if_neg (by decide +kernel)]
   exact hn1 _ (by decide +kernel)
 exists wpAny_bind (cs_get hc11 (r := none) hd2 ?_)
 exists wpAny_ite_true (by decide) ?_
 exists wpAny_bind (cs_set hc11 fun s₁₂ hc12 => ?_)
 generalize hm3 : (fun x => if x = Str.ofString "__doc__" then some Value.none else (if x = objS then some (Value.ref p) else (if x = Str.ofString "__qualname__" then none else m x))) = m₃ at hc12
 have hm3a : ∀ x, x ≠ Str.ofString "__qualname__" → x ≠ objS → x ≠ Str.ofString "__doc__" → m₃ x = m x := by
   intro x h1 h2 h3
   rw [← hm3]
   simp only [h1, h2, h3, if_false]
 have hm3o : m₃ objS = some (.ref p) := by
   rw [← hm3]
   dsimp only
   rw [if_neg (by decide +kernel), if_pos rfl]
 exists wpAny_bind (cs_get hc12 (r := some veq) ((hm3a _ (by decide +kernel) (by decide +kernel) (by decide +kernel)).trans hmeq) ?_)
 exists wpAny_ite_true (by simp) ?_
 exists wpAny_bind (cs_get hc12 (r := some vha) ((hm3a _ (by decide +kernel) (by decide +kernel) (by decide +kernel)).trans hmha) ?_)
 exists wpAny_ite_false (by simp) ?_
 exists wpAny_bind (forIn_one (x := .type "object") (by trivial) ?_)
 exists wpAny_bind (note_object ?_)
 exists wpAny_pure ?_
 have ht3 : ∀ x v, m₃ x = some v → tame s₁₂.heap v := by
   intro x v hv
   rw [← hm3] at hv
   dsimp only at hv
   split at hv
   · cases hv; exact .inr (.inr (.inl rfl))
   · split at hv
     · cases hv
       exact .inr (.inr (.inr ⟨p, _, _, rfl, (hc12.oth _ (.head _)).1, rfl, by simp⟩))
     · split at hv
       · cases hv
       · exact (htame x v hv).keeps hc12.up.keep
 refine wpAny_bind (wpAny_tryCatch (wpAny_mono (E := fun _ _ => False) (wpAny_holding ?_) (fun _ _ h => h) fun _ _ h => h.elim))
 refine el_EEEAA (ns1_ent hc12.ns) ?_; intro od ed epd e1 e2 hent
 exists wpAny_bind (ent_ok e1 e2 ?_)
 refine wpAny_bind (forIn_sameA (fun e he Q' hQ' => ?_) ?_)
 · refine el_EEA (hent e he) ?_; intro n t hk _
   rw [hk]
   refine wpAny_bind (wpAny_of_eq (a := some n) rfl ?_)
   exact wpAny_ite_false (by rfl) (wpAny_pure hQ')
 exists wpAny_ite_false (by decide) ?_
 exists wpAny_bind (ent_ok e1 e2 ?_)
 refine wpAny_bind (forIn_sameA (fun e he Q' hQ' => ?_) ?_)
 · refine el_EEA (hent e he) ?_; intro n t hk hv
   have hta := ht3 _ _ hv
   refine wpAny_ite_false (by rw [tame_laid hta]; rfl) ?_
   exact wpAny_bind (tame_special hta (wpAny_pure hQ'))
 refine wpAny_bind (super_C hc12 rfl fun s₁₃ so hc13 hso _ => ?_)
 refine wpAny_bind (wpAny_holding (getsup_C hc13 hst rfl hso fun s₁₄ b hc14 hb => ?_))
 refine wpAny_bind (callinit_C hc14 rfl hb (wpAny_pure (wpAny_pure ?_)))
 exact hQ s₁₄ D C p tp m₃ hc14 hm3a hm3o
end
theorem slot_type_init : Slot "type" "__init__" "type.__init__" :=
 .of (owner := "type") (n := "__init__") (by rw [typeLookup_type, builtinLookup_eq_fast]; kernel_rfl) (by decide +kernel) (by decide +kernel) (by decide +kernel)
   (by first | exact .inl (by decide +kernel) | exact .inr (by decide +kernel)) (by rw [isSubtype_type]; kernel_rfl)
theorem entry_type_init : entryFor table "type.__init__" = some Builtin.«type.__init__» := entryFor_of_tree (by kernel_rfl)
theorem entry_type_new : entryFor table "type.__new__" = some Builtin.«type.__new__» := entryFor_of_tree (by kernel_rfl)
theorem args_type_init (a b c d : Value) : argsOk "type.__init__" ⟨[a, b, c, d], []⟩ := by unfold argsOk; kernel_rfl
theorem made_type : Bind.madeBy (.type "type") = pure (some "type.__new__") := by kernel_rfl
theorem mro_type : mroOf (.type "type") = pure [.type "type", .type "object"] := by rw [mroOf_type]; kernel_rfl
theorem chk_type (x y z : Value) : checkTypeCall "type" ⟨[x, y, z], []⟩ = pure () := by kernel_rfl
theorem newCall_type (x : PySem.Str) (t : Tok) (a b : Addr) : checkBuiltinCall "type.__new__" ⟨[.type "type", .str x t, .ref a, .ref b], []⟩ = pure () := by kernel_rfl
theorem plain_type_new : plainId "type.__new__" = true := by decide +kernel
section
variable {prog : Program} {w : World} {A : Around} {E : Value → Shared → Prop} {s : Shared}
theorem calltype_ok {T N : Addr} {x : PySem.Str} {u6 : Tok} {Q : Value → Shared → Prop} 
   (h : ∀ A' (Q' : Fin → Shared → Prop) (E' : Value → Shared → Prop), (∀ s' C, s'.TypeIs (.ref C) "type" → (∀ s'', Up s' s'' → Q (.ref C) s'') → Q' (.done (.ret (.ref C))) s') → wpAny (model prog w) A' (Builtin.«type.__new__» ⟨[.type "type", .str x u6, .ref T, .ref N], []⟩) Q' E' s) :
   wpAny (model prog w) A (call (.type "type") [.str x u6, .ref T, .ref N]) Q E s := by
 refine wpAny_call (codeAny_of_tree ?_)
 show wpAny _ _ (callAny (.type "type") _) _ _ _
 refine wpAny_pure ⟨Code.quiet_builtin _ (by decide +kernel), codeAny_builtin F.entry_type_call ?_⟩
 unfold Builtin.«type.__call__»
 dsimp only
 refine wpAny_ite_true (by decide +kernel) ?_
 refine wpAny_ite_false (by rfl) ?_
 refine wpAny_ite_false (by rfl) ?_
 refine wpAny_ite_false (by decide +kernel) ?_
 refine wpAny_bind (wpAny_of_eq (chk_type _ _ _) ?_)
 refine wpAny_bind (wpAny_of_eq mro_type ?_)
 refine wpAny_ite_false (by rfl) ?_
 refine wpAny_bind (wpAny_of_eq made_type ?_)
 refine wpAny_bind (wpAny_pure ?_)
 refine wpAny_bind (wpAny_holding (wpAny_call (codeAny_of_tree ?_)))
 show wpAny _ _ (do checkBuiltinCall "type.__new__" ⟨[.type "type", .str x u6, .ref T, .ref N], []⟩; again (.builtin "type.__new__" ⟨[.type "type", .str x u6, .ref T, .ref N], []⟩)) _ _ s
 refine wpAny_bind (wpAny_of_eq (newCall_type _ _ _ _) (wpAny_pure ⟨plainId_quiet plain_type_new _, codeAny_builtin entry_type_new ?_⟩))
 refine h _ _ _ fun s' C hT hq => ?_
 dsimp only
 refine wpAny_bind (wpAny_isInstance hT sub_type ?_)
 refine wpAny_ite_false (by decide) ?_
 refine wpAny_bind (wpAny_holding ?_)
 unfold callSpecial?
 refine wpAny_bind (wpAny_specialOf hT slot_type_init.lookup ?_)
 dsimp only
 refine wpAny_holding (wpAny_bind (wpAny_of_eq (slot_type_init.bind _) ?_))
 dsimp only
 refine wpAny_bind (wpAny_call_entry slot_type_init hT entry_type_init ?_ (args_type_init _ _ _ _))
 unfold Builtin.«type.__init__»
 refine wpAny_ite_false (by rfl) ?_
 refine wpAny_ite_false (by rfl) ?_
 refine wpAny_pure ⟨_, rfl, wpAny_pure ?_⟩
 refine wpAny_ite_false (by decide) (wpAny_pure ?_)
 exact hq s' (Up.refl _)
end
section
variable {M : Model} {A : Around} {E : Value → Shared → Prop} {s : Shared} {name qual : PySem.Str} {params : Arguments} {body : List Stmt} {scope : Scope} {env : Env} {c P : Addr} {ps : Array Value} {pos : Pos} {mg : PySem.Str → Option Value} {clos : List (PySem.Str × Addr)} {fl : Nat}
noncomputable def FnK (h : Heap) (f : Addr) (name qual : PySem.Str) (params : Arguments) (body : List Stmt) (scope : Scope) (clos : List (PySem.Str × Addr)) : Prop :=
 ∃ pm c' ct, h.get? f = some { cls := .type "function", data := .func (fnX name qual params body scope clos .none .none .none pm none (.ref c') ct) } ∧ h.CodeRec (.ref c') qual
theorem FnK.keeps {h h' : Heap} {f : Addr} (x : FnK h f name qual params body scope clos) (k : Keep h h') : FnK h' f name qual params body scope clos :=
 el_EEEA x fun pm c' ct e1 e2 => ⟨pm, c', ct, k _ _ e1, e2.keeps k⟩
theorem make_fn {Q : Value → Shared → Prop} (hcl : closureFor scope env = pure clos) (hge0 : env.globals = mainGlobals) (hg : s.heap.Ns mainGlobals mg) (hcode : env.code = .ref c) (T : CodeTab s.heap c P ps)
   (hnf : codeAmong pos ps.toList = none) (hgP : mainGlobals ≠ P) (hb : s.heap.BuiltinsAt mg P) (hdoc : docOf body = none)
   (h : ∀ f c' s', Sm s s' → KeepNot [P] s.heap s'.heap → s.heap.objs.size ≤ s'.heap.objs.size → s.heap.objs.size ≤ f → (∀ h'' : Heap, (∀ b o, s.heap.objs.size ≤ b → s'.heap.get? b = some o → h''.get? b = some o) → FnK h'' f name qual params body scope clos) →
     CodeTab s'.heap c P (ps ++ #[rawInt pos.line, rawInt pos.col, .ref c']) → Q (.ref f) s') :
   wpAny M A (makeTail name qual params (.stmts body) scope env .none .none none pos fl) Q E s := by
 refine el_EEAAAAAAA hb ?_; try clear hb; intro bm ob hbm hne0 _ hneP hbo hcls hdict hdata
 unfold makeTail
 rw [hcl, hge0]
 refine wpAny_bind (wpAny_pure ?_)
 have rest : ∀ ctv s₁, Up s s₁ → wpAny M A (do
     let code ← functionCode env pos fl name qual params scope (.stmts body)
     let bu ← builtinsFor mainGlobals env.builtins
     let nm ← nsGet mainGlobals "__name__"
     let doc ← (match docOf body with
       | some s => mkText s
       | none => pure .none : Sem Value)
     newObj (.type "function") (.func { name, qualname := qual, params, body := .stmts body, scope, globals := mainGlobals, closure := clos, closureTuple := ctv, code := code, builtins := bu, defaults := .none, kwdefaults := .none, annotations := none, pyModule := nm.getD .none, doc := doc })) Q E s₁ := ?rest
 · cases hc : clos.isEmpty with
   | true => exact wpAny_ite_true (by rfl) (wpAny_bind (wpAny_pure (rest _ _ (Up.refl _))))
   | false => exact wpAny_ite_false (by rfl) (wpAny_bind (wpAny_newTextTuple (rest _ _ (Up.push _ _))))
 intro ctv s₁ u₁
 have kp : Keep s.heap s₁.heap := u₁.keep
 refine wpAny_bind (wpAny_functionCodeX hcode (T.1.keeps kp) (T.2.keeps kp) hnf fun c' h' tk hx hge hlt hcode' hrec htb hnew => ?_)
 have hg' := (hg.keeps kp).extBut hx hgP
 refine wpAny_bind (wpAny_builtinsFor hg' hbm hne0 (hx _ _ hneP (kp _ _ hbo)) hcls hdict hdata ?_)
 refine wpAny_bind (wpAny_nsGet hg' ?_)
 rw [hdoc]
 refine wpAny_bind (wpAny_pure (wpAny_newObj_type ?_ (by size_fits)))
 have k2 := Keep.push h' { cls := .type "function", data := .func (fnX name qual params body scope clos .none .none .none ((mg "__name__").getD .none) none (.ref c') ctv) }
 have hsz : s.heap.objs.size ≤ h'.objs.size := Nat.le_trans (Nat.le_trans u₁.size hge) (Nat.le_of_lt hlt)
 refine h h'.objs.size c' _ ⟨u₁.st.gens, u₁.st.drawn, u₁.st.os⟩ (fun b o hb e => k2 b o (hx b o (fun q => hb (by simp [q])) (kp b o e))) ?_ hsz (fun h'' kk => ⟨_, c', ctv, kk _ _ hsz (Heap.get?_push_size _ rfl), by
   refine el_EEEEAA (hrec.keeps k2) ?_; intro c0 o0 vs0 t0 e0 g0 r0
   cases e0
   exact ⟨_, o0, vs0, t0, rfl, kk _ _ (Nat.le_trans u₁.size hge) g0, r0⟩⟩) ⟨hcode'.keeps k2, htb.keeps k2⟩
 show _ ≤ (h'.push _).objs.size
 rw [Heap.size_push]; lia
theorem def_stmt {bind : PySem.Str} {as : List Arg} {Q : Flow → Shared → Prop} (hp : params = ⟨[], as, none, [], [], none, []⟩) (hann : annotationsOf (as ++ [] ++ [] ++ [] ++ []) env = [])
   (h : wpAny M A (makeTail name (qualnameIn env name bind) params (.stmts body) scope env .none .none none pos pos.line) (fun f s₁ => wpAny M A (storeName env bind f) (fun _ s₂ => Q .next s₂) E s₁) E s) :
   wpAny M A (exec (.FunctionDef name params body [] none [] scope none bind pos) env) Q E s := by
 rw [arm_exec_FunctionDef]
 unfold defStmt
 subst hp
 refine wpAny_ite_false (by rfl) ?_
 refine wpAny_bind (wpAny_of_eq (a := []) rfl ?_)
 refine wpAny_bind (wpAny_standAt ?_)
 refine wpAny_bind (wpAny_holding ?_)
 refine wpAny_bind (wpAny_of_eq (a := []) rfl ?_)
 refine wpAny_bind (wpAny_holding (wpAny_of_eq (a := []) rfl ?_))
 refine wpAny_holding ?_
 dsimp only
 refine wpAny_bind (wpAny_of_eq (a := []) (by show evalNamed (annotationsOf (as ++ [] ++ [] ++ [] ++ []) env ++ []) = _; rw [hann]; rfl) ?_)
 rw [makeFunction_eq]
 simp only [List.zip_nil_left, List.filterMap_nil, List.isEmpty_nil, if_true, pure_bind]
 refine wpAny_mono h (fun f s₁ h₁ => ?_) fun _ _ e => e
 refine wpAny_bind (wpAny_of_eq (a := f) rfl ?_)
 refine wpAny_bind (wpAny_standAt ?_)
 unfold bindName
 refine wpAny_bind (wpAny_bind (wpAny_holding (wpAny_point (wpAny_bind (wpAny_mono h₁ (fun _ s₂ h₂ => wpAny_point (wpAny_pure h₂)) fun _ _ e => e)))))
end
structure CB (s s' : Shared) (wr : List Addr) (N c P : Addr) (L : List (PySem.Str × Value)) (ps : Array Value) (OK : Heap → Prop) : Prop where
 st : Sm s s'
 keep : KeepNot wr s.heap s'.heap
 size : s.heap.objs.size ≤ s'.heap.objs.size
 ns : s'.heap.Ns1 N fun x => L.lookup x
 nd : ∃ o, s'.heap.get? N = some o ∧ o.cls = .type "dict"
 code : CodeTab s'.heap c P ps
 nz : s.heap.objs.size ≤ N
 pz : s.heap.objs.size ≤ P
 ne : N ≠ P
 nc : N ≠ c
 oth : ∀ h' : Heap, (∀ b o, b ≠ N → b ≠ P → s'.heap.get? b = some o → h'.get? b = some o) → OK h'
theorem look_cons {x : PySem.Str} {v : Value} {L : List (PySem.Str × Value)} : (fun y => if y = x then some v else L.lookup y) = fun y => ((x, v) :: L).lookup y := by
 funext y
 rw [List.lookup_cons]
 by_cases h : y = x
 · subst h; simp
 · rw [if_neg h, show (y == x) = false by simpa using h]
section
variable {s s' : Shared} {wr : List Addr} {N c P : Addr} {L : List (PySem.Str × Value)} {ps : Array Value} {OK : Heap → Prop}
theorem CB.upS (X : CB s s' wr N c P L ps OK) {s'' : Shared} (u : Up s' s'') : CB s s'' wr N c P L ps OK :=
 ⟨X.st.trans u.st, fun b o hb e => u.keep _ _ (X.keep b o hb e), Nat.le_trans X.size u.size, X.ns.at fun o e => u.keep _ _ e, let ⟨o, e, hc⟩ := X.nd; ⟨o, u.keep _ _ e, hc⟩, X.code.keeps u.keep, X.nz, X.pz, X.ne, X.nc,
   fun h' k => X.oth h' fun b o h1 h2 e => k b o h1 h2 (u.keep _ _ e)⟩
theorem CB.more (X : CB s s' wr N c P L ps OK) {OK' : Heap → Prop} (h : ∀ h' : Heap, (∀ b o, b ≠ N → b ≠ P → s'.heap.get? b = some o → h'.get? b = some o) → OK' h') : CB s s' wr N c P L ps fun h => OK' h ∧ OK h :=
 ⟨X.st, X.keep, X.size, X.ns, X.nd, X.code, X.nz, X.pz, X.ne, X.nc, fun h' k => ⟨h h' k, X.oth h' k⟩⟩
end
section
variable {prog : Program} {w : World} {A : Around} {E : Value → Shared → Prop} {s s' : Shared} {wr : List Addr} {N c P : Addr} {L : List (PySem.Str × Value)} {ps : Array Value} {OK : Heap → Prop} {env : Env}
theorem cb_local {x : PySem.Str} {v : Value} {Q : Unit → Shared → Prop} (X : CB s s' wr N c P L ps OK) (hl : env.locals = N) (h : ∀ s'', CB s s'' wr N c P ((x, v) :: L) ps OK → Q () s'') : wpAny (model prog w) A (localSet env x v) Q E s' := by
 unfold localSet
 rw [hl]
 refine el_EA (X.nd) ?_; intro o e hc
 refine wpAny_bind (wpAny_load e ?_)
 refine wpAny_ite_true (by rw [hc]; decide) ?_
 refine wpAny_nsSet1EFk X.ns fun h' hn hs hod => h _ ⟨⟨X.st.gens, X.st.drawn, X.st.os⟩, fun b o hb e => ?_, Nat.le_trans X.size (Nat.le_of_eq hs.1.symm), look_cons ▸ hn, ?_, ⟨X.code.1.sameBut hs (Ne.symm X.nc) (Ne.symm X.ne), ?_⟩, X.nz, X.pz, X.ne, X.nc, fun h'' k => X.oth h'' fun b o h1 h2 e => k b o h1 h2 ((hs.2 b h1).trans e)⟩
 · exact (hs.2 b (Nat.ne_of_lt (Nat.lt_of_lt_of_le (Heap.lt_size e) X.nz))).trans (X.keep b o hb e)
 · refine el_EAA (hod o e) ?_; intro o' e' hc' _
   exact ⟨o', e', hc'.trans hc⟩
 · refine el_A (X.code.2) ?_; intro zz0 htP
   refine el_EEAAA zz0 ?_; clear zz0; intro oc vc hoc hcc hdc h11c
   exact ⟨⟨oc, vc, (hs.2 _ (Ne.symm X.nc)).trans hoc, hcc, hdc, h11c⟩, (hs.2 _ (Ne.symm X.ne)).trans htP⟩
theorem cb_store {x : PySem.Str} {v : Value} {Q : Unit → Shared → Prop} (X : CB s s' wr N c P L ps OK) (hk : storeName env x v = localSet env x v) (hl : env.locals = N) (h : ∀ s'', CB s s'' wr N c P ((x, v) :: L) ps OK → Q () s'') : wpAny (model prog w) A (storeName env x v) Q E s' := by
 rw [hk]; exact cb_local X hl h
theorem cb_fn {P2 : Addr} {name qual : PySem.Str} {params : Arguments} {body : List Stmt} {scope : Scope} {pos : Pos} {mg : PySem.Str → Option Value} {clos : List (PySem.Str × Addr)} {fl : Nat} {Q : Value → Shared → Prop} (X : CB s s' [P2] N c P L ps OK)
   (hcl : closureFor scope env = pure clos) (hge0 : env.globals = mainGlobals) (hg : s.heap.Ns mainGlobals mg) (hcode : env.code = .ref c) (hnf : codeAmong pos ps.toList = none) (hgw : mainGlobals ≠ P2) (hb : s.heap.BuiltinsAt mg P2) (hdoc : docOf body = none)
   (h : ∀ f c' s'', CB s s'' [P2] N c P L (ps ++ #[rawInt pos.line, rawInt pos.col, .ref c']) (fun h => FnK h f name qual params body scope clos ∧ OK h) → Q (.ref f) s'') :
   wpAny (model prog w) A (makeTail name qual params (.stmts body) scope env .none .none none pos fl) Q E s' := by
 have hlt : mainGlobals < s.heap.objs.size := hg.lt
 have hg' : s'.heap.Ns mainGlobals mg := hg.at' fun o e => X.keep _ o (by simpa using hgw) e
 have hb' : s'.heap.BuiltinsAt mg P := by
   refine el_EEAAAAA hb ?_; try clear hb; intro bm ob g1 g2 g3 g4 g5 g6
   exact ⟨bm, ob, g1, g2, g3, Nat.ne_of_lt (Nat.lt_of_lt_of_le (Heap.lt_size g5) X.pz), X.keep _ _ (by simpa using g4) g5, g6⟩
 have hNlt : N < s'.heap.objs.size := X.ns.ns.lt
 have hPlt : P < s'.heap.objs.size := by obtain ⟨_, e⟩ := X.code.2; exact Heap.lt_size e
 refine make_fn hcl hge0 hg' hcode X.code hnf (Nat.ne_of_lt (Nat.lt_of_lt_of_le hlt X.pz)) hb' hdoc fun f c' s'' st k hz hf hF hT => ?_
 have kN : ∀ o, s'.heap.get? N = some o → s''.heap.get? N = some o := fun o e => k N o (by simpa using X.ne) e
 refine h f c' s'' ⟨X.st.trans st, fun b o hb e => ?_, Nat.le_trans X.size hz, X.ns.at kN, let ⟨o, e, hc⟩ := X.nd; ⟨o, kN o e, hc⟩, hT, X.nz, X.pz, X.ne, X.nc, fun h' kk => ⟨?_, X.oth h' fun b o h1 h2 e => kk b o h1 h2 (k b o (by simpa using h2) e)⟩⟩
 · refine k b o ?_ (X.keep b o hb e)
   have : b ≠ P := Nat.ne_of_lt (Nat.lt_of_lt_of_le (Heap.lt_size e) X.pz)
   simpa using this
 · refine hF h' fun b o hb e => kk b o ?_ ?_ e
   · exact Nat.ne_of_gt (Nat.lt_of_lt_of_le hNlt hb)
   · exact Nat.ne_of_gt (Nat.lt_of_lt_of_le hPlt hb)
end
noncomputable abbrev clsStmt : Stmt := (bdOf (stmtAt 2)).getD 0 (.Pass default)
noncomputable abbrev clBody : Stmt → List Stmt
 | .ClassDef _ _ _ b .. => b
 | _ => []
noncomputable abbrev clScope : Stmt → Scope
 | .ClassDef _ _ _ _ _ _ s .. => s
 | _ => default
noncomputable abbrev kSt (i : Nat) : Stmt := (clBody clsStmt).getD i (.Pass default)
noncomputable abbrev posOf : Stmt → Pos
 | .FunctionDef _ _ _ _ _ _ _ _ _ p => p
 | _ => default
noncomputable abbrev cenvK (q : PySem.Str) (N fr c : Addr) (cl : List (PySem.Str × Addr)) : Env :=
 { scope := clScope clsStmt, locals := N, globals := mainGlobals, qual := q ++ ".", code := .ref c, frame := some fr, builtins := builtinsNs, cells := cl }
noncomputable abbrev qnOf (q : PySem.Str) (i : Nat) : PySem.Str := q ++ "." ++ nmOf (kSt i)
noncomputable def FnsK (q : PySem.Str) (cell f1 f2 f3 f4 f5 f6 : Addr) (h : Heap) : Prop :=
 FnK h f1 (nmOf (kSt 2)) (qnOf q 2) (psOf (kSt 2)) (bdOf (kSt 2)) (scOf (kSt 2)) [] ∧ FnK h f2 (nmOf (kSt 3)) (qnOf q 3) (psOf (kSt 3)) (bdOf (kSt 3)) (scOf (kSt 3)) [(Str.ofString "mycmp", cell)] ∧
 FnK h f3 (nmOf (kSt 4)) (qnOf q 4) (psOf (kSt 4)) (bdOf (kSt 4)) (scOf (kSt 4)) [(Str.ofString "mycmp", cell)] ∧ FnK h f4 (nmOf (kSt 5)) (qnOf q 5) (psOf (kSt 5)) (bdOf (kSt 5)) (scOf (kSt 5)) [(Str.ofString "mycmp", cell)] ∧
 FnK h f5 (nmOf (kSt 6)) (qnOf q 6) (psOf (kSt 6)) (bdOf (kSt 6)) (scOf (kSt 6)) [(Str.ofString "mycmp", cell)] ∧ FnK h f6 (nmOf (kSt 7)) (qnOf q 7) (psOf (kSt 7)) (bdOf (kSt 7)) (scOf (kSt 7)) [(Str.ofString "mycmp", cell)]
section
variable {prog : Program} {w : World} {A : Around} {E : Value → Shared → Prop} {s s' : Shared} {N c P : Addr} {L : List (PySem.Str × Value)} {OK : Heap → Prop}
theorem body_ok {P2 fr cell : Addr} {q : PySem.Str} {mg : PySem.Str → Option Value} {Q : Flow → Shared → Prop} (X : CB s s' [P2] N c P L #[] OK) (hg : s.heap.Ns mainGlobals mg) (hgw : mainGlobals ≠ P2) (hb : s.heap.BuiltinsAt mg P2)
   (h : ∀ s'' f1 f2 f3 f4 f5 f6 ls u t0 ps, CB s s'' [P2] N c P ((Str.ofString "__hash__", .none) :: (Str.ofString "__ge__", .ref f6) :: (Str.ofString "__le__", .ref f5) :: (Str.ofString "__eq__", .ref f4) :: (Str.ofString "__gt__", .ref f3) :: (Str.ofString "__lt__", .ref f2) ::
       (Str.ofString "__init__", .ref f1) :: (Str.ofString "__slots__", .ref ls) :: (Str.ofString "__module__", .str (Str.ofString "cpy313.functools") t0) :: L) ps (fun h => FnsK q cell f1 f2 f3 f4 f5 f6 h ∧ h.IsList ls #[.str objS u] ∧ OK h) → Q .next s'') :
   wpAny (model prog w) A (execs (clBody clsStmt) (cenvK q N fr c [(Str.ofString "mycmp", cell)])) Q E s' := by
 refine wpAny_execs_cons ?_
 exists wpAny_Assign_Name ?_ (by trivial)
 exists wpAny_Constant_str ?_
 refine cb_store (X.upS (Up.toks _)) (by trivial) rfl fun s₁ X₁ => ?_
 refine wpAny_execs_cons ?_
 exists wpAny_Assign_Name ?_ (by trivial)
 exists List_ ?_
 exists sp_more (by trivial) ?_
 exists wpAny_Constant_str ?_
 exists spliced_none ?_
 exists newL (by simp) fun ls s₂ u₂ hls hl => ?_
 have X₂ := (X₁.upS ((Up.toks _).trans u₂)).more (OK' := fun h => h.IsList ls #[.str objS s₁.toks]) fun h' k => by
   refine el_EAA (hl.isList) ?_; intro o e hc r
   have hN : N < s₁.heap.objs.size := X₁.ns.ns.lt
   have hP : P < s₁.heap.objs.size := by obtain ⟨_, e⟩ := X₁.code.2; exact Heap.lt_size e
   exact ⟨o, k ls o (Nat.ne_of_gt (Nat.lt_of_lt_of_le hN hls)) (Nat.ne_of_gt (Nat.lt_of_lt_of_le hP hls)) e, hc, r⟩
 refine cb_store X₂ (by trivial) rfl fun s3 X3 => ?_
 refine wpAny_execs_cons ?_
 refine def_stmt rfl (by trivial) ?_
 refine cb_fn X3 (by trivial) rfl hg rfl (by kernel_rfl) hgw hb (by trivial) fun f1 c1 s4 X4 => ?_
 refine cb_store X4 (by trivial) rfl fun s5 X5 => ?_
 refine wpAny_execs_cons ?_
 refine def_stmt rfl (by trivial) ?_
 refine cb_fn X5 (by trivial) rfl hg rfl (by kernel_rfl) hgw hb (by trivial) fun f2 c2 s6 X6 => ?_
 refine cb_store X6 (by trivial) rfl fun s7 X7 => ?_
 refine wpAny_execs_cons ?_
 refine def_stmt rfl (by trivial) ?_
 refine cb_fn X7 (by trivial) rfl hg rfl (by kernel_rfl) hgw hb (by trivial) fun f3 c3 s8 X8 => ?_
 refine cb_store X8 (by trivial) rfl fun s9 X9 => ?_
 refine wpAny_execs_cons ?_
 refine def_stmt rfl (by trivial) ?_
 refine cb_fn X9 (by trivial) rfl hg rfl (by kernel_rfl) hgw hb (by trivial) fun f4 c4 s10 X10 => ?_
 refine cb_store X10 (by trivial) rfl fun s11 X11 => ?_
 refine wpAny_execs_cons ?_
 refine def_stmt rfl (by trivial) ?_
 refine cb_fn X11 (by trivial) rfl hg rfl (by kernel_rfl) hgw hb (by trivial) fun f5 c5 s12 X12 => ?_
 refine cb_store X12 (by trivial) rfl fun s13 X13 => ?_
 refine wpAny_execs_cons ?_
 refine def_stmt rfl (by trivial) ?_
 refine cb_fn X13 (by trivial) rfl hg rfl (by kernel_rfl) hgw hb (by trivial) fun f6 c6 s14 X14 => ?_
 refine cb_store X14 (by trivial) rfl fun s15 X15 => ?_
 refine wpAny_execs_cons ?_
 exists wpAny_Assign_Name ?_ (by trivial)
 exists wpAny_Constant_none ?_
 refine cb_store X15 (by trivial) rfl fun s16 X16 => ?_
 refine wpAny_execs_nil ?_
 refine h s16 f1 f2 f3 f4 f5 f6 ls s₁.toks _ _ ⟨X16.st, X16.keep, X16.size, X16.ns, X16.nd, X16.code, X16.nz, X16.pz, X16.ne, X16.nc, fun h' k => ?_⟩
 refine el_AAAAAAA (X16.oth h' k) ?_; intro g6 g5 g4 g3 g2 g1 gl gr
 exact ⟨⟨g1, g2, g3, g4, g5, g6⟩, gl, gr⟩
end
theorem owner_pr : (kfb_private% "ownerAndName") "type.__prepare__" = ("type", "__prepare__") := by first | decide +kernel | kernel_rfl
theorem type_pr : typeOf (.builtin "type.__prepare__") = pure (.type "classmethod_descriptor") := by show builtinType _ = _; rw [builtinType_eq_fast]; kernel_rfl
theorem entry_pr : entryFor table "type.__prepare__" = some Builtin.«type.__prepare__» := entryFor_of_tree (by kernel_rfl)
theorem find_pr : findCls [] (.type "type") (.type "type") (Str.ofString "__prepare__") = some (.get (.builtin "classmethod_descriptor.__get__") (.builtin "type.__prepare__") .none (.type "type")) := by kernel_rfl
theorem kind_pr : builtinKind "type.__prepare__" = some .classMethod := by decide +kernel
noncomputable abbrev boundPr : Obj := { cls := .type "builtin_function_or_method", data := .fields #[.builtin "type.__prepare__", .type "type"] }
section
variable {prog : Program} {w : World} {A : Around} {E : Value → Shared → Prop} {s : Shared}
theorem cmget_pr {P : Fin → Shared → Prop} (h : P (.done (.ret (.ref s.heap.objs.size))) { s with heap := s.heap.push boundPr }) :
   wpAny (model prog w) A (Builtin.«classmethod_descriptor.__get__» ⟨[.builtin "type.__prepare__", .none, .type "type"], []⟩) P E s := by
 unfold Builtin.«classmethod_descriptor.__get__»
 refine wpAny_bind (wpAny_of_eq (a := (.builtin "type.__prepare__", none, some (.type "type"))) (by first | rfl | kernel_rfl) ?_)
 simp only [owner_pr]
 refine wpAny_bind (wpAny_of_eq (a := .type "type") rfl ?_)
 refine wpAny_bind (wpAny_of_eq (a := true) rfl ?_)
 refine wpAny_ite_false (by decide) ?_
 refine wpAny_bind (wpAny_of_eq sub_type ?_)
 refine wpAny_ite_false (by decide) ?_
 exact wpAny_bind (wpAny_newObj_type (wpAny_pure h))
theorem tof_type : typeOf (.type "type") = pure (.type "type") := rfl
theorem noK (h : Heap) : Frag.In [] h := fun a o e => by cases e
theorem stub_type : opaqueClassAbove (.type "type") = pure none := by unfold opaqueClassAbove; dsimp only; rw [show Manifest.isStub "type" = false by decide +kernel]; rfl
theorem hook_type' : hookBefore (.type "type") = pure none := rfl
theorem tga_pr {tk : Tok} {Q : Fin → Shared → Prop} (h : ∀ b s', Up s s' → s'.heap.get? b = some boundPr → Q (.done (.ret (.ref b))) s') : wpAny (model prog w) A (Builtin.«type.__getattribute__» ⟨[.type "type", .str (Str.ofString "__prepare__") tk], []⟩) Q E s := by
 have e1 : Looks (model prog w) s.heap (opaqueClassAbove (.type "type")) none := Looks.of_pure stub_type
 have e2 : Looks (model prog w) s.heap (typeOf (.type "type")) (.type "type") := Looks.of_pure tof_type
 exists tga_run (K := []) (c := .type "type") (mc := .type "type") (r := .get (.builtin "classmethod_descriptor.__get__") (.builtin "type.__prepare__") .none (.type "type")) (noK _) e1 e2 find_pr ?_
 unfold CFound.run
 refine wpAny_bind (wpAny_holding (wpAny_call_entry KFB.slot_get type_pr KFB.entry_get (cmget_pr ⟨_, rfl, ?_⟩) (KFB.args_get _ _ _)))
 exact wpAny_pure (h _ _ (Up.push _ _) (Heap.get?_push_size _ rfl))
theorem prep_ok {Q : Option Value → Shared → Prop} (h : ∀ b s', Up s s' → s'.heap.get? b = some boundPr → Q (some (.ref b)) s') : wpAny (model prog w) A (getAttr? (.type "type") (Str.ofString "__prepare__")) Q E s := by
 unfold getAttr? getAttrBy? getAttrBy
 refine wpAny_bind (wpAny_mkText ?_)
 refine wpAny_bind (wpAny_attempt (wpAny_holding ?_))
 refine wpAny_bind (wpAny_of_eq tof_type ?_)
 refine wpAny_bind (wpAny_of_eq KF.slot_tga.lookup ?_)
 dsimp only
 refine wpAny_ite_false (by decide +kernel) ?_
 unfold getAttrByItsOwn callGetattribute boundAndCalled
 refine wpAny_bind (wpAny_of_eq hook_type' ?_)
 refine wpAny_bind (wpAny_attempt (wpAny_holding ?_))
 refine wpAny_ite_false (by decide +kernel) ?_
 refine wpAny_bind (wpAny_of_eq (KF.slot_tga.bind _) ?_)
 dsimp only
 refine wpAny_call_entry KF.slot_tga tof_type KF.entry_tga (tga_pr fun b s' u hb => ⟨_, rfl, ?_⟩) (KF.args_tga _ _)
 refine wpAny_of_eq (a := .ref b) rfl (wpAny_pure ?_)
 exact h b s' ((Up.toks _).trans u) hb
noncomputable abbrev sigP : Manifest.Signature := ⟨.hand, "type.__prepare__", "__prepare__", .cls, []⟩
theorem sig_pr : Manifest.signature? "type.__prepare__" = some sigP := by kernel_rfl
theorem chk_pr (x : PySem.Str) (t : Tok) (a : Addr) : Bind.checkArgs "type.__prepare__" { machinery := sigP.machinery, full := toString (Bind.lastOf "type") ++ toString "." ++ toString (Bind.lastOf "type.__prepare__"), short := sigP.short, receiver := sigP.receiver, params := sigP.params } ⟨[.type "type", .str x t, .ref a], []⟩ = pure () := by kernel_rfl
theorem callprep_ok {b a : Addr} {x : PySem.Str} {t : Tok} {Q : Value → Shared → Prop} (hb : s.heap.get? b = some boundPr) (hq : Q (.ref s.heap.objs.size) { s with heap := s.heap.push { cls := .type "dict", data := .dict #[] } }) : wpAny (model prog w) A (call (.ref b) [.str x t, .ref a]) Q E s := by
 refine wpAny_call (codeAny_of_tree ?_)
 show wpAny _ _ (callAny (.ref b) _) _ _ _
 unfold callAny
 refine wpAny_bind (wpAny_load hb ?_)
 dsimp only
 rw [if_pos (by decide)]
 show wpAny _ _ (do checkBoundCall "type.__prepare__" ⟨[.type "type", .str x t, .ref a], []⟩; again (.builtin "type.__prepare__" ⟨[.type "type", .str x t, .ref a], []⟩)) _ _ _
 refine wpAny_bind ?_
 unfold checkBoundCall
 rw [sig_pr]
 dsimp only
 rw [kind_pr]
 dsimp only
 refine wpAny_ite_false (by decide) ?_
 refine wpAny_bind (wpAny_isInstance (T := "type") tof_type sub_type_module ?_)
 refine wpAny_ite_false (by decide +kernel) ?_
 refine wpAny_bind (wpAny_of_eq (a := true) rfl ?_)
 refine wpAny_ite_true (by decide) ?_
 refine wpAny_bind (wpAny_pure ?_)
 dsimp only
 refine wpAny_of_eq (chk_pr _ _ _) ?_
 refine wpAny_pure ⟨by kernel_rfl, codeAny_builtin entry_pr ?_⟩
 unfold Builtin.«type.__prepare__» newDict
 refine wpAny_bind (wpAny_newObj_type (wpAny_pure ?_) (by size_fits))
 exact hq
end
theorem nsFind_some {es : Array DictEntry} {x : PySem.Str} {v : Value} (h : nsFind es x = some v) : ∃ k kv, es.find? (fun e => e.key.isStr x) = some ⟨k, kv, v⟩ := by
 unfold nsFind findBy at h
 refine el_EA (Option.map_eq_some_iff.mp h) ?_; intro e he hv
 obtain ⟨k, kv, v'⟩ := e
 cases hv
 exact ⟨k, kv, he⟩
theorem nsFind_any {es : Array DictEntry} {x : PySem.Str} : es.any (fun e => e.key.isStr x) = (nsFind es x).isSome := by
 unfold nsFind findBy
 rw [Option.isSome_map, Bool.eq_iff_iff]
 simp only [Array.find?_isSome, Array.any_eq_true]
 constructor
 · intro zzM69_17_0
   obtain ⟨i, hi, h⟩ := zzM69_17_0
   exact ⟨es[i], Array.getElem_mem hi, h⟩
 · intro zzM69_19_0
   refine el_EA zzM69_19_0 ?_; clear zzM69_19_0; intro e he h
   obtain ⟨i, hi, zz0⟩ := Array.getElem_of_mem he
   obtain rfl := zz0
   exact ⟨i, hi, h⟩
noncomputable abbrev slotsK (T : Addr) (u6 tq : Tok) : Array (Option Value) := #[some (.ref T), none, some (.str (Str.ofString "K") u6), some (.str qnK tq), some (.builtin "object.__new__"), some (.bool false)]
section
variable {prog : Program} {w : World} {A : Around} {E : Value → Shared → Prop} {s s' : Shared} {wr : List Addr} {N c P : Addr} {L : List (PySem.Str × Value)} {ps : Array Value} {OK : Heap → Prop}
theorem tn_cb {T ls : Addr} {tq u u6 : Tok} {veq vha vm : Value} {nT : Nat} {Q : Value → Shared → Prop} (X : CB s s' wr N c P L ps OK) (hno : ∀ x, x ∉ keysK → L.lookup x = none) (hq : L.lookup (Str.ofString "__qualname__") = some (.str qnK tq)) (he : L.lookup (Str.ofString "__eq__") = some veq)
   (hh : L.lookup (Str.ofString "__hash__") = some vha) (hm : L.lookup (Str.ofString "__module__") = some vm) (hs : L.lookup (Str.ofString "__slots__") = some (.ref ls)) (hl : s'.heap.IsList ls #[.str objS u])
   (htame : ∀ x v, L.lookup x = some v → tame s'.heap v) (hT : s'.heap.get? T = some { cls := .type "tuple", data := .seq #[.type "object"] nT }) (hN1 : (N == sysModules) = false) (hst : NoThird s'.heap)
   (hQ : ∀ s'' D C p tp m', CS s' s'' D C m' (cdK' C D qnK) (slotsK T u6 tq) [(p, memK C tp)] → (∀ x, x ≠ Str.ofString "__qualname__" → x ≠ objS → x ≠ Str.ofString "__doc__" → m' x = L.lookup x) → m' objS = some (.ref p) → Q (.ref C) s'') :
   wpAny (model prog w) A (call (.type "type") [.str (Str.ofString "K") u6, .ref T, .ref N]) Q E s' := by
 refine calltype_ok fun A' Q' E' hk => ?_
 refine el_EEEAA (ns1_size X.ns hno) ?_; intro o es ep e1 e2 hez
 refine el_EA (X.nd) ?_; intro o2 e3 hc
 refine el_EEEAAAA (id X.ns) ?_; intro o' es' ep' e1' e2' _ _ hf
 rw [e1] at e1'; cases e1'
 rw [e2] at e2'; cases e2'
 rw [e1] at e3; cases e3
 refine el_EE (nsFind_some ((hf (Str.ofString "__slots__")).trans hs)) ?_; intro k kv hfs
 refine tn_ok e1 hc e2 X.ns (Nat.le_trans hez (by decide)) hq hno he hh hT hN1 hfs ?_ ?_ ?_ hl hst htame fun s'' D C p tp m' Y h1 h2 => hk s'' C ⟨_, Y.cls, rfl⟩ fun s3 u3 => hQ s3 D C p tp m' (Y.upS u3) h1 h2
 · rw [nsFind_any, hf]; dsimp only; rw [hno _ (by decide +kernel)]; rfl
 · rw [nsFind_any, hf]; dsimp only; rw [hno _ (by decide +kernel)]; rfl
 · rw [nsFind_any, hf]; dsimp only; rw [hm]; rfl
theorem lookup_mem {x : PySem.Str} {v : Value} : ∀ {L : List (PySem.Str × Value)}, L.lookup x = some v → (x, v) ∈ L
 | [], h => by cases h
 | (y, u) :: r, h => by
   rw [List.lookup_cons] at h
   cases hb : (x == y) with
   | true =>
     rw [hb] at h
     have : x = y := by simpa using hb
     cases h
     subst this
     exact .head _
   | false => rw [hb] at h; exact .tail _ (lookup_mem h)
theorem lookup_no {x : PySem.Str} {K : List PySem.Str} {L : List (PySem.Str × Value)} (hK : ∀ p ∈ L, p.1 ∈ K) (h : x ∉ K) : L.lookup x = none := by
 cases hl : L.lookup x with
 | none => rfl
 | some v => exact absurd (hK _ (lookup_mem hl)) h
end
section
variable {M : Model} {A : Around} {E : Value → Shared → Prop} {s : Shared}
theorem classCode_new {env : Env} {c P : Addr} {ps : Array Value} {pos : Pos} {fl : Nat} {name q : PySem.Str} {sc : Scope} {Q : Value → Shared → Prop} (hc : env.code = .ref c) (T : CodeTab s.heap c P ps) (hnf : codeAmong pos ps.toList = none)
   (hQ : ∀ c' P' s', Sm s s' → KeepNot [P] s.heap s'.heap → s.heap.objs.size ≤ s'.heap.objs.size → s.heap.objs.size ≤ c' → s.heap.objs.size ≤ P' → CodeTab s'.heap c' P' #[] → s'.heap.CodeRec (.ref c') q → IsTab s'.heap P → Q (.ref c') s') :
   wpAny M A (classCode env pos fl name q sc) Q E s := by
 refine el_EEEEEEEEEEAAAAAAAAAA (T.1) ?_; intro o vs file tf flags tg inF text tt op ho hd h11 h2 h7 h9 h10 hop hpd htr hne
 have hPlt : P < s.heap.objs.size := Heap.lt_size hop
 unfold classCode codeAt
 rw [hc]
 refine wpAny_ite_false rfl ?_
 refine wpAny_bind (wpAny_fieldsOf ho hd ?_)
 rw [h11]
 refine wpAny_bind (wpAny_fieldsOf hop hpd ?_)
 rw [hnf, h2, h7, h9, h10]
 refine wpAny_bind (wpAny_newCodeX fun c' P' h' tk hk hc' hP' hcode' htab' hrec' => ?_)
 have hop' := hk _ _ hop
 refine wpAny_bind (wpAny_updateFieldsOfTheText hop' hpd ?_)
 have hnew : (Obj.mapFields (fun vs => if (codeAmong pos vs.toList).isSome = true then vs else vs ++ #[rawInt pos.line, rawInt pos.col, .ref c']) op).data = .fields (ps ++ #[rawInt pos.line, rawInt pos.col, .ref c']) := by
   rw [Obj.data_mapFields hpd, hnf]; rfl
 have hget := Heap.get?_update_self (h := h') (fun o => Obj.mapFields (fun vs => if (codeAmong pos vs.toList).isSome = true then vs else vs ++ #[rawInt pos.line, rawInt pos.col, .ref c']) o) hop' (Obj.isFreed_of_fields hnew)
 refine wpAny_bind (wpAny_fieldsOf hget hnew ?_)
 rw [show (ps ++ #[rawInt pos.line, rawInt pos.col, Value.ref c']).toList = ps.toList ++ [rawInt pos.line, rawInt pos.col, .ref c'] by simp, codeAmong_snoc _ htr hnf]
 have hs0 : ∀ f, Heap.SameBut P h' (h'.update P f) := fun f => Heap.SameBut.update ..
 have hs := hs0 (fun o => Obj.mapFields (fun vs => if (codeAmong pos vs.toList).isSome = true then vs else vs ++ #[rawInt pos.line, rawInt pos.col, .ref c']) o)
 have n1 : c' ≠ P := Nat.ne_of_gt (Nat.lt_of_lt_of_le hPlt hc')
 have n2 : P' ≠ P := Nat.ne_of_gt (Nat.lt_of_lt_of_le hPlt hP')
 have hz' : s.heap.objs.size ≤ h'.objs.size := Nat.le_trans hc' (Nat.le_of_lt hcode'.lt.1)
 refine wpAny_pure (hQ c' P' _ ⟨rfl, rfl, rfl⟩ (fun b o' hb e => (hs.2 b (by simpa using hb)).trans (hk b o' e)) (Nat.le_trans hz' (Nat.le_of_eq hs.1.symm)) hc' hP' ⟨hcode'.sameBut hs n1 n2, htab'.sameBut hs n1 n2⟩ ?_ ?_)
 · refine el_EEEEAA hrec' ?_; try clear hrec'; intro c₂ o₂ vs₂ t₂ e₂ g₂ r₂
   cases e₂
   exact ⟨_, o₂, vs₂, t₂, rfl, (hs.2 _ n1).trans g₂, r₂⟩
 · have hop2 := T.2.2
   rw [hop] at hop2
   cases hop2
   exact ⟨_, hget⟩
end
section
variable {prog : Program} {w : World} {A : Around} {E : Value → Shared → Prop} {s : Shared} {P : Adr} {mg mb : PySem.Str → Option Value}
noncomputable abbrev envK (L a c2 : Addr) : Env := envOfC (nmOf (stmtAt 2)) (scOf (stmtAt 2)) L a (.ref c2)
theorem ln_class {s s' : Shared} {wr : List Addr} {q : PySem.Str} {N fr c P' : Addr} {cl : List (PySem.Str × Addr)} {L : List (PySem.Str × Value)} {ps : Array Value} {OK : Heap → Prop} {v : Value} {Q : Value → Shared → Prop} (X : CB s s' wr N c P' L ps OK) (hg : s'.heap.Ns mainGlobals mg) (hv : mg (Str.ofString "__name__") = some v)
   (hno : L.lookup (Str.ofString "__name__") = none) (h : Q v s') : wpAny (model prog w) A (loadName (cenvK q N fr c cl) (Str.ofString "__name__")) Q E s' := by
 unfold loadName
 refine wpAny_ite_false (by rfl) ?_
 show wpAny _ _ (if (!compilersOwnNames.contains (Str.ofString "__name__")) = true then _ else _) _ _ _
 refine wpAny_ite_false (by decide +kernel) ?_
 unfold localGet
 refine el_EA (X.nd) ?_; intro o e hc
 refine wpAny_bind (wpAny_bind (wpAny_load e ?_))
 refine wpAny_ite_true (by rw [hc]; decide) ?_
 refine wpAny_nsGet X.ns.ns ?_
 rw [hno]
 exact loadGlobal_global hg hv h
theorem dict_getitem : typeLookup (.type "dict") "__getitem__" = pure (some (.builtin "dict.__getitem__")) := by rw [typeLookup_type, builtinLookup_eq_fast]; kernel_rfl
theorem memK_of : ∀ x, x ∈ ([Str.ofString "__static_attributes__", Str.ofString "__hash__", Str.ofString "__ge__", Str.ofString "__le__", Str.ofString "__eq__", Str.ofString "__gt__", Str.ofString "__lt__", Str.ofString "__init__", Str.ofString "__slots__", Str.ofString "__module__", Str.ofString "__firstlineno__", Str.ofString "__qualname__", Str.ofString "__module__"] : List PySem.Str) → x ∈ keysK := by decide +kernel
theorem lk_no {L : List (PySem.Str × Value)} (hL : L.map Prod.fst = [Str.ofString "__static_attributes__", Str.ofString "__hash__", Str.ofString "__ge__", Str.ofString "__le__", Str.ofString "__eq__", Str.ofString "__gt__", Str.ofString "__lt__", Str.ofString "__init__", Str.ofString "__slots__", Str.ofString "__module__", Str.ofString "__firstlineno__", Str.ofString "__qualname__", Str.ofString "__module__"])
 {x : PySem.Str} (hx : x ∉ keysK) : L.lookup x = none := lookup_no (fun p hp => memK_of p.1 (hL ▸ List.mem_map_of_mem (f := Prod.fst) hp)) hx
theorem fnk_tame {h : Heap} {f : Addr} {name qual : PySem.Str} {params : Arguments} {body : List Stmt} {scope : Scope} {clos : List (PySem.Str × Addr)} (x : FnK h f name qual params body scope clos) : tame h (.ref f) := by
 refine el_EEEA x ?_; try clear x; intro pm c' ct e _
 exact .inr (.inr (.inr ⟨_, _, _, rfl, e, rfl, by simp⟩))
theorem mapM_one {x : PySem.Str} {s : Shared} {Q : List Value → Shared → Prop} (h : Q [.str x s.toks] { s with toks := s.toks + 1 }) : wpAny (model prog w) A (List.mapM mkText [x]) Q E s := by
 rw [List.mapM_cons]
 refine wpAny_bind (wpAny_mkText ?_)
 rw [List.mapM_nil]
 exact wpAny_bind (wpAny_pure (wpAny_pure h))
structure KMade (s s' : Shared) (P2 C D p f1 f2 f3 f4 f5 f6 cell : Addr) (m' : PySem.Str → Option Value) (tp : Tok) (T : Addr) (u6 tq : Tok) : Prop where
 st : Sm s s'
 keep : KeepNot [P2] s.heap s'.heap
 size : s.heap.objs.size ≤ s'.heap.objs.size
 cls : s'.heap.get? C = some { cls := .type "type", data := .cls (cdK' C D qnK), slots := slotsK T u6 tq }
 ns : s'.heap.Ns1 D m'
 mem : s'.heap.get? p = some (memK C tp)
 fns : FnsK qnK cell f1 f2 f3 f4 f5 f6 s'.heap
 mo : m' objS = some (.ref p)
 mi : m' (Str.ofString "__init__") = some (.ref f1)
 ml : m' (Str.ofString "__lt__") = some (.ref f2)
 mno : ∀ x, x ∉ objS :: Str.ofString "__doc__" :: keysK → m' x = none
 cz : s.heap.objs.size ≤ C
 dz : s.heap.objs.size ≤ D
 pz : s.heap.objs.size ≤ p
 tab : IsTab s'.heap P2
theorem build_ok {L a c2 P2 : Addr} {nm : Value} {q : PySem.Str} {body : List Stmt} {sc : Scope} {fl : Nat} {pos : Pos} {Q : Value → Shared → Prop} (hroom : A.depth < recursionLimit) (W : Wd P mg mb s.heap) (hT : CodeTab s.heap c2 P2 #[]) (hgw : mainGlobals ≠ P2) (hb : s.heap.BuiltinsAt mg P2) (hname : mg (Str.ofString "__name__") = some nm) (hst : NoThird s.heap)
   (hbody : body = clBody clsStmt) (hsc : sc = clScope clsStmt) (hq : q = qnK) (hnm : ∃ x t, nm = .str x t)
   (hQ : ∀ s' C D p f1 f2 f3 f4 f5 f6 m' tp T u6 tq, KMade s s' P2 C D p f1 f2 f3 f4 f5 f6 (L + 1) m' tp T u6 tq → Q (.ref C) s') :
   wpAny (model prog w) A (buildClass (Str.ofString "K") q [.type "object"] [] body sc [objS] fl (envK L a c2) pos none) Q E s := by
 unfold buildClass
 exists wpAny_bind (wpAny_newTuple ?_ (by rw [sizeLine_eq]; decide))
 exists wpAny_bind (forIn_one (x := .type "object") (by trivial) ?_)
 exists wpAny_bind (ob_isType ?_)
 exists wpAny_ite_true (by decide) ?_
 exists wpAny_ite_false (by decide) ?_
 exists wpAny_pure ?_
 refine wpAny_bind (ob_typeOf ?_)
 exists wpAny_bind (wpAny_of_eq (a := true) (by trivial) ?_)
 exists wpAny_ite_true (by decide) ?_
 exists wpAny_bind (forIn_one (x := .type "object") (by trivial) ?_)
 exists wpAny_bind (ob_typeOf ?_)
 exists wpAny_bind (wpAny_of_eq sub_type ?_)
 exists wpAny_ite_true (by decide) ?_
 exists wpAny_pure ?_
 exists wpAny_bind (wpAny_mkText ?_)
 exists wpAny_ite_false (by decide) ?_
 exists wpAny_bind (wpAny_pure ?_)
 exists wpAny_holding ?_
 exists wpAny_bind (prep_ok fun b s₁ u₁ hbp => ?_)
 have hTT : s₁.heap.get? s.heap.objs.size = some { cls := .type "tuple", data := .seq #[.type "object"] } := u₁.keep _ _ (Heap.get?_push_size _ rfl)
 have us₁ : Up s s₁ := ((Up.push (s := s) _ (s.toks + 1)).trans u₁)
 refine wpAny_bind (callprep_ok hbp ?_)
 have hD0 : (s₁.heap.push { cls := .type "dict", data := .dict #[] }).get? s₁.heap.objs.size = some { cls := .type "dict", data := .dict #[] } := Heap.get?_push_size _ rfl
 have us₂ : Up s { s₁ with heap := s₁.heap.push { cls := .type "dict", data := .dict #[] } } := us₁.trans (Up.push (s := s₁) _ s₁.toks)
 have hTT₂ : (s₁.heap.push { cls := .type "dict", data := .dict #[] }).get? s.heap.objs.size = some { cls := .type "tuple", data := .seq #[.type "object"] } := Heap.get?_push_of_some _ hTT
 have hNs : (s₁.heap.push { cls := .type "dict", data := .dict #[] }).Ns1 s₁.heap.objs.size fun x => ([] : List (PySem.Str × Value)).lookup x := ⟨_, #[], 0, hD0, rfl, (fun e he => by simp at he), List.Pairwise.nil, fun _ => rfl⟩
 have hDz : s.heap.objs.size < s₁.heap.objs.size := Heap.lt_size hTT
 generalize hs₂ : ({ s₁ with heap := s₁.heap.push { cls := .type "dict", data := .dict #[] } } : Shared) = s₂ at us₂ ⊢
 have e₂ : s₁.heap.push { cls := .type "dict", data := .dict #[] } = s₂.heap := by rw [← hs₂]
 rw [e₂] at hD0 hNs hTT₂
 clear hs₂ e₂
 generalize s₁.heap.objs.size = D at hD0 hNs hDz ⊢
 have hgl : mainGlobals < s.heap.objs.size := W.g.lt
 have hD1 : (D == sysModules) = false := by
   have : D ≠ 1 := by have : (3 : Nat) < s.heap.objs.size := hgl; omega
   simpa [sysModules] using this
 refine wpAny_bind ?_
 unfold notTheModulesDict
 refine wpAny_ite_false (by rw [hD1]; rfl) (wpAny_pure ?_)
 refine wpAny_bind (wpAny_specialOf (T := "dict") ⟨_, hD0, rfl⟩ dict_getitem ?_)
 exists wpAny_ite_false (by decide) ?_
 exists wpAny_holding ?_
 exists wpAny_ite_false (by rw [hsc]; decide +kernel) ?_
 exists wpAny_bind (wpAny_pure ?_)
 exists wpAny_ite_false (by rw [hsc]; decide +kernel) ?_
 exists wpAny_bind (wpAny_pure ?_)
 refine wpAny_bind (classCode_new rfl (hT.keeps us₂.keep) rfl fun c' P' s₃ st₃ k₃ z₃ hc' hP' hT' hrec htb₃ => ?_)
 have hP2 : P2 < s.heap.objs.size := by obtain ⟨_, e⟩ := hT.2; exact Heap.lt_size e
 have hst2 : P2 ≠ cStatics := by
   intro e
   refine el_EA hst ?_; try clear hst; intro ms zz0 _
   refine el_EEEAA zz0 ?_; clear zz0; intro o es ep e1 e2 _
   refine el_A (hT.2) ?_; intro _ e3
   rw [e] at e3
   rw [e1] at e3
   cases e3
   cases e2
 have kk : KeepNot [P2] s.heap s₃.heap := fun b o hb e => k₃ b o hb (us₂.keep b o e)
 have hg₃ : s₃.heap.Ns mainGlobals mg := W.g.at' fun o e => kk _ o (by simpa using hgw) e
 refine el_EEAAAAAAA (id hb) ?_; intro bm ob hbm hne0 hneg hneP hbo hcls hdict hdata
 refine wpAny_bind (wpAny_builtinsFor hg₃ hbm hne0 (kk _ _ (by simpa using hneP) hbo) hcls hdict hdata ?_)
 refine wpAny_bind ?_
 unfold newBodyFrame
 refine wpAny_bind (wpAny_nsGet hg₃ (wpAny_alloc ?_))
 refine wpAny_bind (wpAny_of_eq (a := [(Str.ofString "mycmp", L + 1)]) (by rw [hsc]; with_unfolding_all rfl) ?_)
 have X0 : ∀ o t, CB s { s₃ with heap := s₃.heap.push o, toks := t } [P2] D c' P' [] #[] (fun h => h.get? s.heap.objs.size = some { cls := .type "tuple", data := .seq #[.type "object"] } ∧ IsTab h P2) := by
   intro o t
   have hDlt : D < s₂.heap.objs.size := Heap.lt_size hD0
   have hDP : D ≠ P2 := Nat.ne_of_gt (Nat.lt_trans hP2 hDz)
   have up : Keep s₃.heap (s₃.heap.push o) := Keep.push _ _
   have hDP' : D ≠ P' := Nat.ne_of_lt (Nat.lt_of_lt_of_le hDlt hP')
   have hDc' : D ≠ c' := Nat.ne_of_lt (Nat.lt_of_lt_of_le hDlt hc')
   refine ⟨⟨us₂.st.gens ▸ st₃.gens, us₂.st.drawn ▸ st₃.drawn, us₂.st.os ▸ st₃.os⟩, fun b o hb e => up _ _ (kk b o hb e), ?_, hNs.at fun o e => up _ _ (k₃ D o (by simpa using hDP) e), ⟨_, up _ _ (k₃ D _ (by simpa using hDP) hD0), rfl⟩, hT'.keeps up,
     Nat.le_of_lt hDz, Nat.le_trans us₂.size hP', hDP', hDc', fun h' kh => ?_⟩
   · show _ ≤ (s₃.heap.push o).objs.size
     rw [Heap.size_push]
     have := us₂.size
     omega
   · refine ⟨kh _ _ (Nat.ne_of_lt hDz) ?_ (up _ _ (k₃ _ _ ?_ hTT₂)), htb₃.on fun o e => kh _ _ (Ne.symm hDP) (Nat.ne_of_lt (Nat.lt_of_lt_of_le hP2 (Nat.le_trans us₂.size hP'))) (up _ _ e)⟩
     · have := Heap.lt_size hTT₂
       exact Nat.ne_of_lt (Nat.lt_of_lt_of_le this hP')
     · have : s.heap.objs.size ≠ P2 := Nat.ne_of_gt hP2
       simpa using this
 generalize hfr : s₃.heap.objs.size = fr
 have X1 := X0 { cls := .type "frame", slots := #[some (Value.ref c'), some (Value.ref (envK L a c2).globals), some (Value.ref D), none, some ((mg (Str.ofString "__name__")).getD Value.none), none, some (Value.ref builtinsNs)] } s₃.toks
 generalize hs₄ : ({ s₃ with heap := s₃.heap.push { cls := .type "frame", slots := #[some (Value.ref c'), some (Value.ref (envK L a c2).globals), some (Value.ref D), none, some ((mg (Str.ofString "__name__")).getD Value.none), none, some (Value.ref builtinsNs)] } } : Shared) = s₄ at X1 ⊢
 clear X0
 subst hsc
 exists wpAny_holding ?_
 have hlim₄ : s₄.heap.NoLimit := W.lim.at fun o e => X1.keep _ o (by simpa using Ne.symm hst2) e
 refine wpAny_bind (wpAny_enterFrame hlim₄ hroom ?_)
 refine wpAny_bind (wpAny_onRaise ?_)
 have hg₄ : s₄.heap.Ns mainGlobals mg := W.g.at' fun o e => X1.keep _ o (by simpa using hgw) e
 refine wpAny_bind (ln_class (q := q) (fr := fr) (cl := [(Str.ofString "mycmp", L + 1)]) X1 hg₄ hname rfl ?_)
 refine wpAny_bind (cb_store (env := cenvK q D fr c' [(Str.ofString "mycmp", L + 1)]) X1 (by trivial) rfl fun s₅ X5 => ?_)
 refine wpAny_bind (wpAny_mkText ?_)
 refine wpAny_bind (cb_store (env := cenvK q D fr c' [(Str.ofString "mycmp", L + 1)]) (X5.upS (Up.toks _)) (by trivial) rfl fun s₆ X6 => ?_)
 refine wpAny_bind (wpAny_mkInt ?_)
 refine wpAny_bind (cb_store (env := cenvK q D fr c' [(Str.ofString "mycmp", L + 1)]) (X6.upS (Up.toks _)) (by trivial) rfl fun s₇ X7 => ?_)
 refine wpAny_pure ?_
 refine wpAny_bind (wpAny_run (codeAny_body (by rw [hbody]; decide +kernel) (by rw [hbody]; with_unfolding_all rfl) ?_))
 subst hbody
 refine body_ok X7 W.g hgw hb fun s₈ f1 f2 f3 f4 f5 f6 ls u t0 ps X8 => ?_
 refine wpAny_bind (wpAny_onRaise ?_)
 refine wpAny_bind (mapM_one ?_)
 refine wpAny_bind (wpAny_newTextTuple ?_)
 have uT : Up s₈ { s₈ with heap := s₈.heap.push { cls := .type "tuple", data := .seq [Value.str objS s₈.toks].toArray }, toks := s₈.toks + 1 } := Up.push _ _
 have X9 := (X8.upS uT).more (OK' := fun h => ∃ o, h.get? s₈.heap.objs.size = some o ∧ o.cls = .type "tuple") fun h' k => by
   have hN : D < s₈.heap.objs.size := X8.ns.ns.lt
   have hP : P' < s₈.heap.objs.size := by obtain ⟨_, e⟩ := X8.code.2; exact Heap.lt_size e
   exact ⟨_, k _ _ (Nat.ne_of_gt hN) (Nat.ne_of_gt hP) (Heap.get?_push_size _ rfl), rfl⟩
 refine wpAny_bind (cb_store (env := cenvK q D fr c' [(Str.ofString "mycmp", L + 1)]) X9 (by trivial) rfl fun s₉ X10 => ?_)
 refine wpAny_pure ?_
 exists wpAny_ite_false (by decide) ?_
 refine el_AAAA (X10.oth s₉.heap fun _ _ _ _ e => e) ?_; intro zz1 hfn hlist hTk htb
 refine el_EA zz1 ?_; clear zz1; intro ot hot hoc
 subst hq
 refine el_EE hnm ?_; try clear hnm; intro xn tn zz2
 obtain rfl := zz2
 have hfn2 := hfn
 refine el_AAAAA hfn ?_; try clear hfn; intro g1 g2 g3 g4 g5 g6
 refine wpAny_bind (tn_cb (vm := .str (Str.ofString "cpy313.functools") t0) (u := u) X10 (fun x hx => lk_no rfl hx) rfl rfl rfl rfl rfl hlist ?_ hTk hD1 ?_ fun s'' D' C p tp m' Y hm hmo => ?_)
 · intro x v hv
   have := lookup_mem hv
   simp only [List.mem_cons, Prod.mk.injEq, List.not_mem_nil, or_false] at this
   rcases this with ⟨_, rfl⟩ | ⟨_, rfl⟩ | ⟨_, rfl⟩ | ⟨_, rfl⟩ | ⟨_, rfl⟩ | ⟨_, rfl⟩ | ⟨_, rfl⟩ | ⟨_, rfl⟩ | ⟨_, rfl⟩ | ⟨_, rfl⟩ | ⟨_, rfl⟩ | ⟨_, rfl⟩ | ⟨_, rfl⟩
   · exact .inr (.inr (.inr ⟨_, _, _, rfl, hot, hoc, by simp⟩))
   · exact .inr (.inr (.inl rfl))
   · exact fnk_tame g6
   · exact fnk_tame g5
   · exact fnk_tame g4
   · exact fnk_tame g3
   · exact fnk_tame g2
   · exact fnk_tame g1
   · refine el_EAA hlist ?_; try clear hlist; intro o e hc _
     exact .inr (.inr (.inr ⟨_, _, _, rfl, e, hc, by simp⟩))
   · exact .inl ⟨_, _, rfl⟩
   · exact .inr (.inl ⟨_, _, rfl⟩)
   · exact .inl ⟨_, _, rfl⟩
   · exact .inl ⟨_, _, rfl⟩
 · refine el_EA hst ?_; try clear hst; intro ms h1 h2
   exact ⟨ms, h1.at' fun o e => X10.keep _ o (by simpa using Ne.symm hst2) e, h2⟩
 refine wpAny_pure (hQ s'' C D' p f1 f2 f3 f4 f5 f6 m' tp _ _ _ ⟨X10.st.trans Y.up.st, fun b o hb e => Y.up.keep _ _ (X10.keep b o hb e), Nat.le_trans X10.size Y.up.size, Y.cls, Y.ns, (Y.oth _ (.head _)).1,
   ⟨g1.keeps Y.up.keep, g2.keeps Y.up.keep, g3.keeps Y.up.keep, g4.keeps Y.up.keep, g5.keeps Y.up.keep, g6.keeps Y.up.keep⟩, hmo, ?_, ?_, ?_, Nat.le_trans X10.size Y.cz, Nat.le_trans X10.size Y.dz, Nat.le_trans X10.size (Y.oth _ (.head _)).2.2.2, htb.on fun o e => Y.up.keep _ _ e⟩)
 · exact hm _ (by decide +kernel) (by decide +kernel) (by decide +kernel)
 · exact hm _ (by decide +kernel) (by decide +kernel) (by decide +kernel)
 · intro x hx
   have hk : x ∉ keysK := fun h => hx (.tail _ (.tail _ h))
   simp only [List.mem_cons, not_or] at hx
   rw [hm x hx.2.2.2.1 hx.1 hx.2.1]
   exact lk_no rfl hk
end
section
variable {prog : Program} {w : World} {A : Around} {E : Value → Shared → Prop} {s : Shared} {P : Adr} {mg mb : PySem.Str → Option Value}
theorem evalArgs_f {f : Value} {args : List (Bool × Sem Value)} {Q : Args → Shared → Prop} (h : wpAny (model prog w) A (spliced args) (fun vs s' => Q ⟨vs, []⟩ s') E s) : wpAny (model prog w) A (evalArgs f false args []) Q E s := by
 unfold evalArgs
 show wpAny _ _ (spliced args >>= _) _ _ _
 refine wpAny_bind (wpAny_mono h (fun vs s' h' => ?_) fun _ _ x => x)
 refine wpAny_holding ?_
 refine wpAny_ite_true (by rfl) ?_
 exact wpAny_bind (wpAny_of_eq (a := []) rfl (wpAny_bind (wpAny_pure (wpAny_pure h'))))
theorem class_ok {L a c2 P2 : Addr} {nm : Value} {Q : Flow → Shared → Prop} (hroom : A.depth < recursionLimit) (W : Wd P mg mb s.heap) (hT : CodeTab s.heap c2 P2 #[]) (hgw : mainGlobals ≠ P2) (hb : s.heap.BuiltinsAt mg P2) (hname : mg (Str.ofString "__name__") = some nm) (hnm : ∃ x t, nm = .str x t) (hst : NoThird s.heap)
   (hQ : ∀ s' C D p f1 f2 f3 f4 f5 f6 m' tp T u6 tq, KMade s s' P2 C D p f1 f2 f3 f4 f5 f6 (L + 1) m' tp T u6 tq → wpAny (model prog w) A (storeName (envK L a c2) (Str.ofString "K") (.ref C)) (fun _ s'' => Q .next s'') E s') :
   wpAny (model prog w) A (exec clsStmt (envK L a c2)) Q E s := by
 show wpAny _ _ (exec (.ClassDef _ _ _ _ _ [] _ _ _ _ _) _) _ _ _
 rw [arm_exec_ClassDef]
 refine wpAny_bind (wpAny_of_eq (a := []) rfl ?_)
 refine wpAny_bind (wpAny_standAt ?_)
 have hbc : mb (Str.ofString "__build_class__") = some (.builtin "__build_class__") := (W.bi _ (by decide +kernel)).trans (by decide +kernel)
 refine wpAny_bind ?_
 unfold buildClassGuard
 refine wpAny_bind (wpAny_nsGet W.b ?_)
 rw [hbc]
 refine wpAny_pure ?_
 refine wpAny_bind (wpAny_holding ?_)
 refine wpAny_bind (evalArgs_f ?_)
 exists sp_more (by trivial) ?_
 exists n_bi W (by trivial) (by trivial) (by trivial) (by trivial) (by trivial) (by decide) (W.no "object" (by decide)) (show bootBuiltins "object" = some (.type "object") by decide +kernel) ?_
 exists spliced_none ?_
 refine wpAny_bind (wpAny_standAt ?_)
 refine wpAny_holding ?_
 refine build_ok hroom W hT hgw hb hname hst rfl rfl (by kernel_rfl) hnm fun s' C D p f1 f2 f3 f4 f5 f6 m' tp T u6 tq K => ?_
 refine wpAny_bind (wpAny_of_eq (a := .ref C) rfl ?_)
 refine wpAny_bind (wpAny_standAt ?_)
 unfold bindName
 exact wpAny_bind (wpAny_bind (wpAny_holding (wpAny_point (wpAny_bind (wpAny_mono (hQ s' C D p f1 f2 f3 f4 f5 f6 m' tp T u6 tq K) (fun _ s₂ h₂ => wpAny_point (wpAny_pure h₂)) fun _ _ e => e)))))
end
theorem FnK.but {h h' : Heap} {f L : Addr} {oL : Obj} {es : Array DictEntry} {n : Nat} {name qual : PySem.Str} {params : Arguments} {body : List Stmt} {scope : Scope} {clos : List (PySem.Str × Addr)} (x : FnK h f name qual params body scope clos) (hL : h.get? L = some oL) (hd : oL.data = .dict es n) (hs : Heap.SameBut L h h') : FnK h' f name qual params body scope clos := by
 refine el_EEEAEEEEAAA x ?_; try clear x; intro pm c' ct e1 c0 o0 vs0 t0 e0 g0 r0 q0
 cases e0
 refine ⟨pm, c', ct, (hs.2 f ?_).trans e1, _, o0, vs0, t0, rfl, (hs.2 _ ?_).trans g0, r0, q0⟩
 · intro e
   rw [e, hL] at e1
   cases e1
   cases hd
 · intro e
   rw [e, hL] at g0
   cases g0
   rw [hd] at r0
   cases r0
structure KOut (s s' : Shared) (P2 C D p f1 f2 cell : Addr) (f : Value) (m' : PySem.Str → Option Value) (tp : Tok) (T : Addr) (u6 tq : Tok) : Prop where
 st : Sm s s'
 keep : KeepNot [P2] s.heap s'.heap
 size : s.heap.objs.size ≤ s'.heap.objs.size
 cls : s'.heap.get? C = some { cls := .type "type", data := .cls (cdK' C D qnK), slots := slotsK T u6 tq }
 ns : s'.heap.Ns1 D m'
 mem : s'.heap.get? p = some (memK C tp)
 fn1 : FnK s'.heap f1 (nmOf (kSt 2)) (qnOf qnK 2) (psOf (kSt 2)) (bdOf (kSt 2)) (scOf (kSt 2)) []
 fn2 : FnK s'.heap f2 (nmOf (kSt 3)) (qnOf qnK 3) (psOf (kSt 3)) (bdOf (kSt 3)) (scOf (kSt 3)) [(Str.ofString "mycmp", cell)]
 cell : s'.heap.IsCell cell (some f)
 mo : m' objS = some (.ref p)
 mi : m' (Str.ofString "__init__") = some (.ref f1)
 ml : m' (Str.ofString "__lt__") = some (.ref f2)
 mno : ∀ x, x ∉ objS :: Str.ofString "__doc__" :: keysK → m' x = none
 cz : s.heap.objs.size ≤ C
 dz : s.heap.objs.size ≤ D
 pz : s.heap.objs.size ≤ p
 tab : IsTab s'.heap P2
noncomputable def CtkR (P2 : Addr) (f : Value) (s : Shared) (r : Result) (s' : Shared) : Prop := ∃ C D p f1 f2 cell m' tp T u6 tq, r = .ok (.ret (.ref C)) ∧ KOut s s' P2 C D p f1 f2 cell f m' tp T u6 tq
section
variable {prog : Program} {w : World} {A : Around} {s : Shared} {P : Adr} {mg mb : PySem.Str → Option Value}
theorem c_ctk {c2 P2 ak : Addr} {nm f : Value} (hroom : A.depth + 1 < recursionLimit) (W : Wd P mg mb s.heap) (hD : DefC s.heap ak (stmtAt 2) (.ref c2)) (hT : CodeTab s.heap c2 P2 #[]) (hgw : mainGlobals ≠ P2) (hb : s.heap.BuiltinsAt mg P2) (hname : mg (Str.ofString "__name__") = some nm) (hnm : ∃ x t, nm = .str x t) (hst : NoThird s.heap) :
   codeAny (model prog w) A (.call (.ref ak) ⟨[f], []⟩) (CtkR P2 f s) s := by
 refine enterC (binds := [(Str.ofString "mycmp", f)]) (by lia) hD W.lim (by intros; rfl) (by rfl) (by rfl) ?_ rfl rfl rfl
 intro L s₁ n hL F u
 have W₁ := W.up u
 have hcell := F.cs (Str.ofString "mycmp") (L + 1) (by trivial)
 have hP2 : P2 < s.heap.objs.size := by obtain ⟨_, e⟩ := hT.2; exact Heap.lt_size e
 have hLP : L ≠ P2 := by rw [hL]; exact Nat.ne_of_gt hP2
 have hLP1 : L + 1 ≠ P2 := by rw [hL]; exact Nat.ne_of_gt (Nat.lt_succ_of_lt hP2)
 have hb₁ : s₁.heap.BuiltinsAt mg P2 := by
   refine el_EEAAAAA hb ?_; try clear hb; intro bm ob g1 g2 g3 g4 g5 g6
   exact ⟨bm, ob, g1, g2, g3, g4, u.keep _ _ g5, g6⟩
 have hst₁ : NoThird s₁.heap := let ⟨ms, h1, h2⟩ := hst; ⟨ms, h1.keeps u.keep, h2⟩
 refine wpAny_execs_cons ?_
 refine class_ok (L := L) (room0 hroom) W₁ (hT.keeps u.keep) hgw hb₁ hname hnm hst₁ fun s₂ C D p f1 f2 f3 f4 f5 f6 m' tp T u6 tq K => ?_
 refine el_EA (F.ns) ?_; intro ml hn hm
 have hn₂ : s₂.heap.Ns L ml := hn.at' fun o e => K.keep _ o (fun h => hLP (List.mem_singleton.mp h)) e
 refine wpAny_storeName_local (by trivial) hn₂ (fun h' hn' hs => ?_) (by trivial)
 refine wpAny_execs_cons ?_
 exists wpAny_Return_some ?_
 refine wpAny_Name (wpAny_loadName_local rfl (by trivial) hn' (if_pos rfl) ?_) (by trivial)
 refine el_EEEAA hn₂ ?_; try clear hn₂; intro oL es ep e1 e2 _
 have hL1 : L < s₁.heap.objs.size := hn.lt
 refine el_AA (K.fns) ?_; intro g1 g2 _
 have ne : ∀ b, s₁.heap.objs.size ≤ b → b ≠ L := fun b hb => Nat.ne_of_gt (Nat.lt_of_lt_of_le hL1 hb)
 have big : ∀ b, s₁.heap.objs.size ≤ b → s.heap.objs.size ≤ b := fun b hb => Nat.le_trans u.size hb
 refine ⟨C, D, p, f1, f2, L + 1, m', tp, T, u6, tq, rfl, ⟨⟨K.st.gens.trans u.st.gens, K.st.drawn.trans u.st.drawn, K.st.os.trans u.st.os⟩, fun b o hb e => ?_, ?_, (hs.2 _ (ne _ K.cz)).trans K.cls, K.ns.sameBut hs (ne _ K.dz), (hs.2 _ (ne _ K.pz)).trans K.mem,
   g1.but e1 e2 hs, g2.but e1 e2 hs, ?_, K.mo, K.mi, K.ml, K.mno, big _ K.cz, big _ K.dz, big _ K.pz, K.tab.on fun o e => (hs.2 _ (Ne.symm hLP)).trans e⟩⟩
 · refine (hs.2 b ?_).trans (K.keep b o hb (u.keep b o e))
   rw [hL]; exact Nat.ne_of_lt (Heap.lt_size e)
 · show _ ≤ h'.objs.size
   rw [hs.1]; exact Nat.le_trans u.size K.size
 · refine el_EA (hcell.1) ?_; intro oc ec hc
   exact ⟨oc, (hs.2 _ (Nat.ne_of_gt (Nat.lt_succ_self _))).trans (K.keep _ _ (fun h => hLP1 (List.mem_singleton.mp h)) ec), hc⟩
end
structure KAt (h : Heap) (C D p f1 f2 cell : Addr) (f : Value) (m' : PySem.Str → Option Value) (tp : Tok) (T : Addr) (u6 tq : Tok) : Prop where
 cls : h.get? C = some { cls := .type "type", data := .cls (cdK' C D qnK), slots := slotsK T u6 tq }
 ns : h.Ns1 D m'
 mem : h.get? p = some (memK C tp)
 fn1 : FnK h f1 (nmOf (kSt 2)) (qnOf qnK 2) (psOf (kSt 2)) (bdOf (kSt 2)) (scOf (kSt 2)) []
 fn2 : FnK h f2 (nmOf (kSt 3)) (qnOf qnK 3) (psOf (kSt 3)) (bdOf (kSt 3)) (scOf (kSt 3)) [(Str.ofString "mycmp", cell)]
 cell : h.IsCell cell (some f)
 mo : m' objS = some (.ref p)
 mi : m' (Str.ofString "__init__") = some (.ref f1)
 ml : m' (Str.ofString "__lt__") = some (.ref f2)
 mno : ∀ x, x ∉ objS :: Str.ofString "__doc__" :: keysK → m' x = none
theorem KAt.keeps {h h' : Heap} {C D p f1 f2 cell : Addr} {f : Value} {m' : PySem.Str → Option Value} {tp : Tok} {T : Addr} {u6 tq : Tok} (X : KAt h C D p f1 f2 cell f m' tp T u6 tq) (k : Keep h h') : KAt h' C D p f1 f2 cell f m' tp T u6 tq :=
 ⟨k _ _ X.cls, X.ns.at fun o e => k _ _ e, k _ _ X.mem, X.fn1.keeps k, X.fn2.keeps k, X.cell.keeps k, X.mo, X.mi, X.ml, X.mno⟩
structure KFr (K : Frag) (h : Heap) (C D p f1 : Addr) (m' : PySem.Str → Option Value) (tp : Tok) (T : Addr) (u6 tq : Tok) : Prop where
 inn : K.In h
 kC : K.lookup C = some { cls := .type "type", data := .cls (cdK' C D qnK), slots := slotsK T u6 tq }
 kD : ∀ x, nsIn K D x = some (m' x)
 kp : K.lookup p = some (memK C tp)
 kf : typeIn K (.ref f1) = some (.type "function")
theorem lk_ne {α : Type} {a b : Addr} {o : α} {r : List (Addr × α)} (h : a ≠ b) : List.lookup a ((b, o) :: r) = List.lookup a r := by
 rw [List.lookup_cons, show (a == b) = false by simpa using h]
theorem lk_eq {α : Type} {a : Addr} {o : α} {r : List (Addr × α)} : List.lookup a ((a, o) :: r) = some o := by
 rw [List.lookup_cons, show (a == a) = true by simp]
section
variable {h : Heap} {C D p f1 f2 cell : Addr} {f : Value} {m' : PySem.Str → Option Value} {tp : Tok} {T : Addr} {u6 tq : Tok}
theorem KAt.fragOf {f9 : Addr} (X : KAt h C D p f1 f2 cell f m' tp T u6 tq) (hfn : ∃ of, h.get? f9 = some of ∧ of.cls = .type "function" ∧ ∃ fd, of.data = .func fd) : ∃ K, KFr K h C D p f9 m' tp T u6 tq := by
 refine el_EEEAAAA (X.ns) ?_; intro oD es ep e1 e2 hk hu hm
 refine el_EAAE hfn ?_; try clear hfn; intro of e3 hfc fd9 hfd
 have hDC : D ≠ C := by
   intro e
   have := X.cls
   rw [e] at e1
   rw [e1] at this
   cases this
   cases e2
 have hpC : p ≠ C := by
   intro e
   have h1 := X.cls
   have h2 := X.mem
   rw [e, h1] at h2
   have := congrArg (fun o : Option Obj => o.map (·.cls)) h2
   simp at this
 have hpD : p ≠ D := by
   intro e
   have h2 := X.mem
   rw [e, e1] at h2
   cases h2
   cases e2
 have hfC : f9 ≠ C := by
   intro e
   have h1 := X.cls
   rw [e, h1] at e3
   cases e3
   simp at hfc
 have hfD : f9 ≠ D := by
   intro e
   rw [e, e1] at e3
   cases e3
   rw [e2] at hfd
   cases hfd
 have hfp : f9 ≠ p := by
   intro e
   have h2 := X.mem
   rw [e, h2] at e3
   cases e3
   simp at hfc
 have e4 := e3
 refine ⟨[(C, { cls := .type "type", data := .cls (cdK' C D qnK), slots := slotsK T u6 tq }), (D, oD), (p, memK C tp), (f9, of)], ⟨?_, lk_eq, ?_, ?_, ?_⟩⟩
 · intro a o e
   by_cases q1 : a = C
   · subst q1; rw [lk_eq] at e; cases e; exact X.cls
   · rw [lk_ne q1] at e
     by_cases q2 : a = D
     · subst q2; rw [lk_eq] at e; cases e; exact e1
     · rw [lk_ne q2] at e
       by_cases q3 : a = p
       · subst q3; rw [lk_eq] at e; cases e; exact X.mem
       · rw [lk_ne q3] at e
         by_cases q4 : a = f9
         · subst q4; rw [lk_eq] at e; cases e; exact e4
         · rw [lk_ne q4] at e; cases e
 · intro x
   unfold nsIn
   rw [lk_ne hDC, lk_eq]
   obtain ⟨oc, od, odt, osl⟩ := oD
   dsimp only at e2
   subst e2
   dsimp only
   have hx := hm x
   unfold nsFind findBy at hx
   rw [← Array.find?_toList] at hx
   cases hf : es.toList.find? (fun e => e.key.isStr x) with
   | some e => rw [hf] at hx; dsimp only; rw [← hx]; rfl
   | none =>
     rw [hf] at hx
     dsimp only
     have hany : es.toList.any (·.refKey) = false := by
       rw [List.any_eq_false]
       intro e he
       refine el_EE (hk e (by simpa using he)) ?_; intro n t hn
       simp [DictEntry.refKey, hn]
     rw [hany, ← hx]
     rfl
 · rw [lk_ne hpC, lk_ne hpD, lk_eq]
 · unfold typeIn
   dsimp only
   rw [lk_ne hfC, lk_ne hfD, lk_ne hfp, lk_eq]
   exact congrArg some hfc
theorem KAt.frag (X : KAt h C D p f1 f2 cell f m' tp T u6 tq) : ∃ K, KFr K h C D p f1 m' tp T u6 tq := X.fragOf (let ⟨_, _, _, e, _⟩ := X.fn1; ⟨_, e, rfl, _, rfl⟩)
theorem KAt.frag2 (X : KAt h C D p f1 f2 cell f m' tp T u6 tq) : ∃ K, KFr K h C D p f2 m' tp T u6 tq := X.fragOf (let ⟨_, _, _, e, _⟩ := X.fn2; ⟨_, e, rfl, _, rfl⟩)
variable {K : Frag}
theorem KFr.own (Y : KFr K h C D p f1 m' tp T u6 tq) {x : PySem.Str} {v : Value} (hv : m' x = some v) : findIn K (.ref C) x = some (some v) := by
 unfold findIn
 dsimp only
 rw [Y.kC]
 dsimp only
 unfold alongIn ownIn
 dsimp only
 rw [Y.kC]
 dsimp only
 rw [Y.kD, hv]
theorem KFr.obj (Y : KFr K h C D p f1 m' tp T u6 tq) {x : PySem.Str} (hv : m' x = none) {r : Option Value} (ho : fastBuiltinOwn "object" x = r) : findIn K (.ref C) x = some r := by
 unfold findIn
 dsimp only
 rw [Y.kC]
 dsimp only
 unfold alongIn ownIn
 dsimp only
 rw [Y.kC]
 dsimp only
 rw [Y.kD, hv]
 dsimp only
 unfold alongIn ownIn
 dsimp only
 rw [ho]
 cases r with
 | none => rfl
 | some v => rfl
theorem KFr.cd (Y : KFr K h C D p f1 m' tp T u6 tq) : clsIn K C = some (cdK' C D qnK) := by
 unfold clsIn
 rw [Y.kC]
end
noncomputable abbrev kEnv (scope : Scope) (L : Addr) (clos : List (PySem.Str × Addr)) (qual : PySem.Str) (f c' : Addr) : Env := newEnv scope L mainGlobals clos (qual ++ ".<locals>.") (some f) (.ref c') none builtinsNs
section
variable {prog : Program} {w : World} {A : Around} {s : Shared}
theorem enterK {f : Addr} {name qual : PySem.Str} {params : Arguments} {body : List Stmt} {scope : Scope} {clos : List (PySem.Str × Addr)} {args : List Value} {binds : List (PySem.Str × Value)} {R : Result → Shared → Prop} (hroom : A.depth < recursionLimit)
   (hF : FnK s.heap f name qual params body scope clos) (hlim : s.heap.NoLimit)
   (hbind : ∀ (s : Shared) pm c' ct, BindsTo s (fnX name qual params body scope clos .none .none .none pm none (.ref c') ct) ⟨args, []⟩ binds) (hcell : ∀ x ∈ scope.names, x.2 ≠ .cell) (hloc : ∀ x ∈ binds, scope.names.lookup x.1 = some .local)
   (hco : scope.isCoroutine = false) (hgen : scope.isGenerator = false) (hk : scope.kind = .function)
   (h : ∀ c' s₁, Up s s₁ → s₁.heap.Ns s.heap.objs.size (fun x => binds.reverse.lookup x) →
     wpAny (model prog w) (A.deeper (kEnv scope s.heap.objs.size clos qual f c')) (execs body (kEnv scope s.heap.objs.size clos qual f c')) (fun fl s' => R (.ok (.ret (match fl with | .ret v => v | _ => .none))) s') (fun _ _ => False) s₁) :
   codeAny (model prog w) A (.call (.ref f) ⟨args, []⟩) R s := by
 refine el_EEEA hF ?_; try clear hF; intro pm c' ct e1 e2
 refine codeAny_call_function hroom e1 rfl hco hgen rfl e2 (hbind s pm c' ct _ _ _ _ ?_)
 refine wpAny_newFunctionEnv hcell hloc (fun h₀ hns₀ hsb₀ => ⟨hlim.fresh _ hsb₀, codeAny_func ?_⟩) hk
 refine wpAny_mono (h c' _ ⟨⟨rfl, rfl, rfl⟩, fun b o e => hsb₀.extBut b o (Nat.ne_of_lt (Heap.lt_size e)) (Heap.get?_push_of_some _ e), ?_⟩ hns₀) (fun _ _ x => x) fun _ _ x => x.elim
 show s.heap.objs.size ≤ h₀.objs.size
 rw [hsb₀.1, Heap.size_push]
 exact Nat.le_succ _
variable {K : Frag} {x C p : Addr} {R : Result → Shared → Prop}
theorem slot_setW {ox : Obj} {od : Option Obj} {v : Value} {i : Nat} (X : K.In s.heap) (I : InstAt s.heap x ox C od) (hp : slotIn K p C = some i) (hi : i < 1000) (hf : ∀ sl, ({ ox with slots := sl } : Obj).isFreed = false)
   (h : ∀ h', Heap.SameBut x s.heap h' → h'.get? x = some { ox with slots := (ox.slots ++ Array.replicate (i + 1 - ox.slots.size) none).setIfInBounds i (some v) } → R (.ok (.ret .none)) { s with heap := h' }) :
   codeAny (model prog w) A (.call (.builtin "member_descriptor.__set__") ⟨[.ref p, .ref x, v], []⟩) R s := by
 refine el_EEEEEEEEAAAA (slot_of X hp) ?_; intro n tn owner behind tb d sl cd ho hc hm hb zz0
 obtain rfl := zz0
 obtain ⟨hh, g, dr, t, os⟩ := s
 have L0 := I.type (M := model prog w)
 have L1 := looks_mroIn (M := model prog w) X hm
 have L2 : Looks (model prog w) hh (Builtin.Slots.slotNamesOf (.ref C)) cd.slotNames := (looks_clsIn X hc).andThen .now
 have hx := I.at_
 dsimp only at ho hx L0 L1
 have f0 := looks_field (M := model prog w) ho 0 (v := .str n tn) rfl
 have f1 := looks_field (M := model prog w) ho 1 (v := owner) rfl
 have f3 := looks_field (M := model prog w) ho 3 (v := .builtin "proto.slot#set") rfl
 have f4 := looks_field (M := model prog w) ho 4 (v := .int behind tb) rfl
 have f5 : Looks (model prog w) hh (Builtin.Getset_descriptor.descrItself (.ref p)) [.ref p] := ((Looks.ld (part := none) ho).andThen .now).andThen (Looks.of_pure (by kernel_rfl))
 refine codeAny_call_builtin KF.slot_mset.plain KF.entry_mset (KF.slot_mset.check _ _ _ _ _ _ _ _ ⟨_, ho, rfl⟩ (KF.args_mset _ _ _) ?_)
 unfold Builtin.«member_descriptor.__set__» Builtin.Getset_descriptor.descrSet Builtin.Getset_descriptor.descrStoreThrough Builtin.Getset_descriptor.descrCheckInstance Builtin.Getset_descriptor.descrNameAndClass isInstance
 repeat lk
 refine ⟨Code.quiet_builtin _ (by decide +kernel), codeAny_builtin KF.entry_slotset ?_⟩
 unfold Builtin.«proto.slot#set» Builtin.Slots.target
 repeat lk
 rw [if_neg hb]
 refine wpAny_pure (wpAny_bind ?_)
 unfold setSlotAt
 dsimp only
 rw [if_neg (by rw [sizeLine_eq]; lia)]
 have hg := Heap.get?_update_self (h := hh) (fun o => { o with slots := (o.slots ++ Array.replicate (cd.slotNames.length - 1 - behind.toNat + 1 - o.slots.size) none).setIfInBounds (cd.slotNames.length - 1 - behind.toNat) (some v) }) hx (hf _)
 exact wpAny_updatePart hx (wpAny_pure (h _ (Heap.SameBut.update ..) hg))
end
section
variable {h : Heap} {C D p f1 f2 cell : Addr} {f : Value} {m' : PySem.Str → Option Value} {tp : Tok} {T : Addr} {u6 tq : Tok} {K : Frag}
theorem spec_type {name : PySem.Str} {r : Option Value} (Y : KFr K h C D p f1 m' tp T u6 tq) (e : findIn [] (.type "type") name = some r) : specialIn K (.ref C) name = some r := by
 unfold specialIn typeIn
 dsimp only
 rw [Y.kC]
 exact e
theorem KFr.makes (Y : KFr K h C D p f1 m' tp T u6 tq) : makesIn K C = true := by
 unfold makesIn
 rw [Y.kC]
 dsimp only
 rw [spec_type Y (r := some (.builtin "type.__call__")) (by kernel_rfl)]
 have : instIn K (.ref C) (.type "type") = some true := by
   unfold instIn typeIn
   dsimp only
   rw [Y.kC]
   kernel_rfl
 rw [this]
 simp
theorem KFr.special_p (Y : KFr K h C D p f1 m' tp T u6 tq) {name : PySem.Str} {r : Option Value} (e : findIn [] (.type "member_descriptor") name = some r) : specialIn K (.ref p) name = some r := by
 unfold specialIn typeIn
 dsimp only
 rw [Y.kp]
 exact e
theorem KFr.takes (Y : KFr K h C D p f1 m' tp T u6 tq) : takesIn K (.ref p) = some true := by
 unfold takesIn
 rw [Y.special_p (name := "__set__") (r := some (.builtin "member_descriptor.__set__")) (by kernel_rfl)]
theorem KFr.taker (Y : KFr K h C D p f1 m' tp T u6 tq) (mo : m' objS = some (.ref p)) : takerIn K C objS = some (some (.ref p)) := by
 unfold takerIn
 rw [Y.own mo, Option.bind_some]
 dsimp only
 rw [Y.takes]
 rfl
theorem KFr.slot (Y : KFr K h C D p f1 m' tp T u6 tq) : slotIn K p C = some 0 := by
 unfold slotIn recIn
 rw [Y.cd, Y.kp]
 simp
theorem KFr.plainO (Y : KFr K h C D p f1 m' tp T u6 tq) : plainOver K C = true := by
 unfold plainOver
 rw [Y.cd]
 rfl
theorem KFr.isCls (Y : KFr K h C D p f1 m' tp T u6 tq) : isClsIn K C = true := by
 unfold isClsIn
 rw [Y.cd]
 rfl
theorem KFr.memTp (Y : KFr K h C D p f1 m' tp T u6 tq) : typeIn K (.ref p) = some (.type "member_descriptor") := by
 unfold typeIn
 dsimp only
 rw [Y.kp]
 rfl
end
noncomputable abbrev instK (C dx : Addr) (v : Value) : Obj := { cls := .ref C, dict := some dx, data := .plain, slots := #[some v] }
noncomputable def RInst (C : Addr) : Rel (List Nat) where
 r := fun ok h v l => ∃ x dx t, v = .ref x ∧ ok x ∧ ok dx ∧ h.get? x = some (instK C dx (.str (sW l) t)) ∧ h.get? dx = some emptyDict
 up := fun k ⟨x, dx, t, e1, e2, e3, e4, e5⟩ => ⟨x, dx, t, e1, e2, e3, k _ _ e2 e4, k _ _ e3 e5⟩
 mono := fun k ⟨x, dx, t, e1, e2, e3, e4, e5⟩ => ⟨x, dx, t, e1, k _ e2, k _ e3, e4, e5⟩
 adr := fun ⟨x, dx, t, e1, e2, e3, e4, e5⟩ q => by rw [e1] at q; cases q; exact ⟨e2, _, e4⟩
section
variable {prog : Program} {w : World} {A : Around} {s : Shared} {C D p f1 f2 cell : Addr} {f : Value} {m' : PySem.Str → Option Value} {tp : Tok} {T : Addr} {u6 tq : Tok}
theorem inst_make {l : List Nat} {t : Tok} (X : KAt s.heap C D p f1 f2 cell f m' tp T u6 tq) (hlim : s.heap.NoLimit) (hroom : A.depth + 3 < recursionLimit) :
   codeAny (model prog w) A (.call (.ref C) ⟨[.str (sW l) t], []⟩) (fun r s' => ∃ v, r = .ok (.ret v) ∧ Up s s' ∧ (RInst C).r (fun b => s.heap.objs.size ≤ b) s'.heap v l) s := by
 obtain ⟨hh, g, d, tk, os⟩ := s
 refine el_E (X.frag) ?_; intro K Y
 refine make_core (makes_of Y.inn Y.makes) (looks_findIn Y.inn (Y.own X.mi)) (fun self => bind_fn Y.inn self Y.kf) (.inl rfl) ?_
 have k1 : Keep hh ((hh.push emptyDict).push (instObj C hh.objs.size)) := fun b o e => Heap.get?_push_of_some _ (Heap.get?_push_of_some _ e)
 have X1 := X.keeps k1
 have hx : ((hh.push emptyDict).push (instObj C hh.objs.size)).get? (hh.objs.size + 1) = some (instObj C hh.objs.size) := by heap_get
 have hd : ((hh.push emptyDict).push (instObj C hh.objs.size)).get? hh.objs.size = some emptyDict := by heap_get
 have hz : ((hh.push emptyDict).push (instObj C hh.objs.size)).objs.size = hh.objs.size + 2 := by rw [Heap.size_push, Heap.size_push]
 generalize hs1 : (⟨(hh.push emptyDict).push (instObj C hh.objs.size), g, d, tk, os⟩ : Shared) = s1
 have hs1h : s1.heap = (hh.push emptyDict).push (instObj C hh.objs.size) := by rw [← hs1]
 rw [← hs1h] at k1 X1 hx hd hz
 refine enterK (binds := [(Str.ofString "self", .ref (hh.objs.size + 1)), (Str.ofString "obj", .str (sW l) t)]) ?_ X1.fn1 (hlim.keeps k1) (fun s pm c' ct => BindsTo.of_eq rfl) (by decide) (fun x hx => by rcases List.mem_cons.mp hx with rfl | hx; exact (by trivial); rw [List.mem_singleton.mp hx]; exact (by trivial)) rfl rfl rfl ?_
 · show A.depth + 1 < recursionLimit; lia
 intro c' s₁ u₁ hns
 have X2 := X1.keeps u₁.keep
 have hx2 := u₁.keep _ _ hx
 have hd2 := u₁.keep _ _ hd
 refine wpAny_execs_cons ?_
 refine plainObj_wpAny_Assign_Attribute ?_
 refine wpAny_Name (wpAny_loadName_local rfl (by trivial) hns (by trivial) ?_)
 refine wpAny_Name (wpAny_loadName_local rfl (by trivial) hns (by trivial) ?_)
 refine el_E (X2.frag) ?_; intro K2 Y2
 have I : InstAt s₁.heap (hh.objs.size + 1) (instObj C hh.objs.size) C (some emptyDict) := ⟨hx2, rfl, rfl, hd2⟩
 refine set_plain Y2.inn I (Y2.obj (X2.mno _ (by decide)) rfl) (osa_descr (s := { s₁ with toks := s₁.toks + 1 }) KF.slot_mset Y2.inn I Y2.plainO (Y2.taker X2.mo) Y2.memTp (slot_setW (s := { s₁ with toks := s₁.toks + 1 }) Y2.inn I Y2.slot (by decide) (fun _ => rfl) fun h' hs hg => ?_))
 refine wpAny_execs_nil ?_
 have up : Keep hh h' := fun b o e => (hs.2 b (Nat.ne_of_lt (Nat.lt_succ_of_lt (Heap.lt_size e)))).trans (u₁.keep _ _ (k1 _ _ e))
 refine ⟨rfl, .ref (hh.objs.size + 1), rfl, ⟨⟨?_, ?_, ?_⟩, up, ?_⟩, hh.objs.size + 1, hh.objs.size, t, rfl, Nat.le_succ _, Nat.le_refl _, hg, ?_⟩
 · exact u₁.st.gens.trans (by rw [← hs1])
 · exact u₁.st.drawn.trans (by rw [← hs1])
 · exact u₁.st.os.trans (by rw [← hs1])
 · show hh.objs.size ≤ h'.objs.size
   rw [hs.1]
   have := u₁.size
   rw [hz] at this
   exact Nat.le_trans (by lia) this
 · exact (hs.2 _ (Nat.ne_of_lt (Nat.lt_succ_self _))).trans hd2
end
theorem keepN {h h' : Heap} {P b : Addr} {o op : Obj} (hp : h.get? P = some op) (k : KeepNot [P] h h') (e : h.get? b = some o) (hne : o ≠ op) : h'.get? b = some o := by
 refine k b o (fun q => hne ?_) e
 rw [List.mem_singleton.mp q, hp] at e
 exact (Option.some.inj e).symm
theorem codeRecN {h h' : Heap} {cd : Value} {q : PySem.Str} {c P : Addr} {ps : Array Value} (x : h.CodeRec cd q) (T : CodeTab h c P ps) (k : KeepNot [P] h h') : h'.CodeRec cd q := by
 refine el_EEEEAAA x ?_; try clear x; intro c0 o0 vs0 t0 zz0 g0 r0 q0
 obtain rfl := zz0
 refine ⟨c0, o0, vs0, t0, rfl, keepN T.2.2 k g0 ?_, r0, q0⟩
 rintro rfl
 refine el_EEEEEEEEEEAAAAAAAAAA (T.1) ?_; intro o vs file tf flags tg inF text tt op e1 e2 e3 e4 e5 e6 e7 e8 e9 e10 e11
 cases r0
 rw [T.2.2] at e8
 cases e8
 dsimp only at e9
 cases e9
 rw [← Array.getElem?_toList] at q0
 revert e10 q0
 generalize ps.toList = l
 intro e10 q0
 cases l with
 | nil => cases q0
 | cons a l =>
   cases l with
   | nil => cases q0
   | cons b l =>
     have hb : b = .str q t0 := by simpa using q0
     subst hb
     cases a <;> exact e10.elim
theorem FnK.but' {h h' : Heap} {f c P : Addr} {ps : Array Value} {name qual : PySem.Str} {params : Arguments} {body : List Stmt} {scope : Scope} {clos : List (PySem.Str × Addr)} (x : FnK h f name qual params body scope clos) (T : CodeTab h c P ps) (k : KeepNot [P] h h') : FnK h' f name qual params body scope clos := by
 refine el_EEEA x ?_; try clear x; intro pm c' ct e1 e2
 exact ⟨pm, c', ct, keepN T.2.2 k e1 (fun q => by cases q), codeRecN e2 T k⟩
section
variable {h h' : Heap} {C D p f1 f2 cell c P : Addr} {ps : Array Value} {f : Value} {m' : PySem.Str → Option Value} {tp : Tok} {T : Addr} {u6 tq : Tok}
theorem KAt.but (X : KAt h C D p f1 f2 cell f m' tp T u6 tq) (Z : CodeTab h c P ps) (k : KeepNot [P] h h') : KAt h' C D p f1 f2 cell f m' tp T u6 tq := by
 refine ⟨keepN Z.2.2 k X.cls (fun q => by cases q), ?_, keepN Z.2.2 k X.mem (fun q => by cases q), X.fn1.but' Z k, X.fn2.but' Z k, ?_, X.mo, X.mi, X.ml, X.mno⟩
 · exact Heap.Ns1.at X.ns fun o e => by
     refine el_EEEAA (X.ns) ?_; intro oD es ep e1 e2 _
     rw [e1] at e
     cases e
     exact keepN Z.2.2 k e1 (fun q => by rw [q] at e2; cases e2)
 · refine el_EA (X.cell) ?_; intro oc e1 e2
   exact ⟨oc, keepN Z.2.2 k e1 (fun q => by rw [q] at e2; cases e2), e2⟩
theorem LamC.but {e : PySem.Expr} {cl : List (PySem.Str × Addr)} {c9 f9 : Addr} {qual : PySem.Str} (x : LamC h f9 e cl (.ref c9) qual) (Z : CodeTab h c P ps) (k : KeepNot [P] h h') : LamC h' f9 e cl (.ref c9) qual := by
 refine el_A x ?_; try clear x; intro zz1 e2
 refine el_EEE zz1 ?_; clear zz1; intro name pm ctv e1
 exact ⟨⟨name, pm, ctv, keepN Z.2.2 k e1 (fun q => by cases q)⟩, codeRecN e2 Z k⟩
end
noncomputable def VS (hs : Heap) (c' P' : Addr) (q : PySem.Str) (s : Shared) : Prop := KeepNot [P'] hs s.heap ∧ TabF c' P' q s.heap
section
variable {prog : Program} {w : World} {A : Around} {s : Shared} {C D p f1 f2 cell : Addr} {m' : PySem.Str → Option Value} {tp : Tok} {T : Addr} {u6 tq : Tok}
theorem e_obj {E : Value → Shared → Prop} {env : Env} {x : PySem.Str} {np pos : Pos} {a dx : Addr} {v : Value} {f : Value} {Q : Value → Shared → Prop} (X : KAt s.heap C D p f1 f2 cell f m' tp T u6 tq)
   (ha : s.heap.get? a = some (instK C dx v)) (hd : s.heap.get? dx = some emptyDict) (hv : handedIn v = true)
   (hx : ∀ (Q' : Value → Shared → Prop), Q' (.ref a) s → wpAny (model prog w) A (eval (.Name x np) env) Q' E s) (h : Q v { s with toks := s.toks + 1 }) :
   wpAny (model prog w) A (eval (.Attribute (.Name x np) objS pos) env) Q E s := by
 refine Attribute_name (hx _ ?_)
 refine el_E (X.frag) ?_; intro K Y
 have I : InstAt s.heap a (instK C dx v) C (some emptyDict) := ⟨ha, rfl, rfl, hd⟩
 exact get_bind Y.inn I (Y.obj (X.mno _ (by decide)) rfl) (findObj_data Y.isCls (Y.own X.mo) (Y.special_p (by kernel_rfl)) Y.takes) (Y.obj (X.mno _ (by decide)) rfl)
   (wpAny_call (slot_get (s := { s with toks := s.toks + 1 }) Y.inn I Y.slot rfl (handed_on hv h)))
variable {P : Adr} {mg mb : PySem.Str → Option Value}
theorem inst_lt {ca c' P' I₀ f : Addr} {va : Value} {alpha x y : List Nat} {qual : PySem.Str} {hb hs : Heap} {kx ky : Value} {E : Value → Shared → Prop} {Q : Bool → Shared → Prop}
   (hroom : A.depth + 8 < recursionLimit) (hh : A.handled = none) (hu : A.units < cLine) (W : Wd P mg mb hb) (kb : Keep hb hs) (hbP : hb.objs.size ≤ P')
   (hD : DefAtD hb P.reduce (stmtAt 4)) (hmiss : mg (Str.ofString "_initial_missing") = some (.ref I₀)) (hB : hb.BuiltinsAt mg P')
   (hf : LamC hs f cmpE [(Str.ofString "alphabet", ca)] (.ref c') qual) (hT : TabF c' P' (qual ++ ".<locals>.") hs) (h0 : hs.IsCell ca (some va)) (hcaP : ca ≠ P')
   (ha : (RL RC).r (fun x => x ≠ P') hs va alpha) (hal : alpha.length ≤ 1000) (hza : x.length ≤ 100) (hzb : y.length ≤ 100) (hma : ∀ c ∈ x, c ∈ alpha) (hmb : ∀ c ∈ y, c ∈ alpha)
   (X : KAt hs C D p f1 f2 cell (.ref f) m' tp T u6 tq) (hx : (RInst C).r All s.heap kx x) (hy : (RInst C).r All s.heap ky y) (V : VS hs c' P' (qual ++ ".<locals>.") s)
   (h : ∀ s'', VS hs c' P' (qual ++ ".<locals>.") s'' → Sm s s'' → KeepNot [P'] s.heap s''.heap → Q (decide (cmpW alpha x y < 0)) s'') :
   wpAny (model prog w) A (keyLt' oneType' kx ky) Q E s := by
 obtain ⟨a, da, ta, rfl, -, -, ga, gda⟩ := hx
 obtain ⟨b, db, tb, rfl, -, -, gb, gdb⟩ := hy
 obtain ⟨ps, Z, -⟩ := id hT
 have X₀ := X.but Z V.1
 refine el_E (X₀.frag2) ?_; intro K Y
 have kbs : Keep hb s.heap := fun b o e => V.1 b o (fun q => by
   have h1 := Heap.lt_size e
   rw [List.mem_singleton.mp q] at h1
   exact absurd h1 (Nat.not_lt.mpr hbP)) (kb b o e)
 rw [keyLt'_oneType, oneLt'_eq]
 simp only [if_true]
 refine wpAny_bind (wpAny_cRoomFor hu ?_)
 have I : InstAt s.heap a (instK C da (.str (sW x) ta)) C (some emptyDict) := ⟨ga, rfl, rfl, gda⟩
 refine wpAny_bind (ifBound_K Y.inn I (Y.own X₀.ml) (by unfold isFn; rw [Y.kf]; rfl) (wpAny_call ?_))
 refine enterK (binds := [(Str.ofString "self", .ref a), (Str.ofString "other", .ref b)]) (by omega) X₀.fn2 (W.lim.keeps kbs) (fun s pm c' ct => BindsTo.of_eq rfl) (by decide) (fun x hx => by rcases List.mem_cons.mp hx with rfl | hx; exact (by trivial); rw [List.mem_singleton.mp hx]; exact (by trivial)) rfl rfl rfl ?_
 intro c1 s₁ u₁ hns
 have X₁ := X₀.keeps u₁.keep
 have k₁ : KeepNot [P'] hs s₁.heap := fun b o hb e => u₁.keep b o (V.1 b o hb e)
 have hcell := X₁.cell
 refine wpAny_execs_cons ?_
 exists wpAny_Return_some ?_
 refine wpAny_Compare1 ?_
 exists wpAny_Call_NameR ?_
 exists e_free (by trivial) (by trivial) (by trivial) (by trivial) (by trivial) hcell ?_
 exists cw_def (by trivial) ?_
 exists sp_more (by trivial) ?_
 refine e_obj X₁ (u₁.keep _ _ ga) (u₁.keep _ _ gda) rfl (fun Q' hq => wpAny_Name (wpAny_loadName_local rfl (by trivial) hns (by trivial) hq)) ?_
 exists sp_more (by trivial) ?_
 refine e_obj (s := { s₁ with toks := s₁.toks + 1 }) X₁ (u₁.keep _ _ gb) (u₁.keep _ _ gdb) rfl (fun Q' hq => wpAny_Name (wpAny_loadName_local rfl (by trivial) hns (by trivial) hq)) ?_
 exists spliced_none ?_
 have hf₁ := hf.but Z k₁
 refine ⟨hf₁.at.fn, ?_⟩
 have h0₁ : s₁.heap.IsCell ca (some va) := by
   refine el_EA h0 ?_; try clear h0; intro o e1 e2
   exact ⟨o, k₁ _ o (fun q => hcaP (List.mem_singleton.mp q)) e1, e2⟩
 have ha₁ : (RL RC).r (fun x => x ≠ P') s₁.heap va alpha := (RL RC).up (fun b o hb e => k₁ b o (fun q => hb (List.mem_singleton.mp q)) e) ha
 refine wpAny_call (codeAny_mono (c_compare (va := va) (hb := hb) (s := { s₁ with toks := s₁.toks + 1 + 1 }) (by show A.depth + 1 + 5 < recursionLimit; omega) (deep_none (by exact hh) _) W (kbs.trans u₁.keep) hbP hD hmiss hB hf₁ (V.2.keeps u₁.keep) (by trivial) h0₁ hcaP ⟨_, rfl⟩ ha₁ hal hza hzb hma hmb) fun r s₂ H => ?_)
 refine el_EAAE H ?_; try clear H; intro v zz0 x₂ t2 zz1
 obtain rfl := zz0
 obtain rfl := zz1
 exists wpAny_Constant_int ?_
 refine PyProof.Rows.lt_int ?_
 show wpAny _ _ (truthOfDropped (.bool _)) _ _ _
 refine wpAny_truthy_bool ?_
 have e1 : ∀ {n : Nat}, Sm s { s₂ with toks := n } := ⟨x₂.st.gens.trans u₁.st.gens, x₂.st.drawn.trans u₁.st.drawn, x₂.st.os.trans u₁.st.os⟩
 refine h _ ⟨fun b o hb e => x₂.keep b o hb (k₁ b o hb e), x₂.tab⟩ e1 fun b o hb e => x₂.keep b o hb (u₁.keep b o e)
end
theorem cmp3_lt (x y : Int) : cmp3 x y < 0 ↔ x < y := by
 unfold cmp3 b2i
 by_cases h1 : y < x <;> by_cases h2 : x < y <;> simp [h1, h2] <;> lia
theorem cmp3_zero (x y : Int) : cmp3 x y = 0 ↔ x = y := by
 unfold cmp3 b2i
 by_cases h1 : y < x <;> by_cases h2 : x < y <;> simp [h1, h2] <;> lia
theorem cmp3_succ (m n : Nat) : cmp3 ((m + 1 : Nat) : Int) ((n + 1 : Nat) : Int) = cmp3 (m : Nat) (n : Nat) := by
 unfold cmp3
 rw [show decide (((n + 1 : Nat) : Int) < ((m + 1 : Nat) : Int)) = decide ((n : Int) < (m : Int)) by rw [decide_eq_decide]; lia, show decide (((m + 1 : Nat) : Int) < ((n + 1 : Nat) : Int)) = decide ((m : Int) < (n : Int)) by rw [decide_eq_decide]; lia]
theorem accN_cons (alpha : List Nat) (x y : Nat) (a b : List Nat) : ∀ k, accN alpha (x :: a) (y :: b) (k + 1) = if cmp3 ((alpha.idxOf x : Nat) : Int) ((alpha.idxOf y : Nat) : Int) ≠ 0 then cmp3 ((alpha.idxOf x : Nat) : Int) ((alpha.idxOf y : Nat) : Int) else accN alpha a b k
 | 0 => by
   show stepN alpha (x :: a) (y :: b) 0 0 = _
   unfold stepN
   rw [if_neg (by simp)]
   show cmp3 ((alpha.idxOf x : Nat) : Int) ((alpha.idxOf y : Nat) : Int) = _
   split
   · rfl
   · rename_i h
     rw [Decidable.not_not] at h
     rw [h]; rfl
 | k + 1 => by
   show stepN alpha (x :: a) (y :: b) (accN alpha (x :: a) (y :: b) (k + 1)) (k + 1) = _
   rw [accN_cons alpha x y a b k]
   by_cases h : cmp3 ((alpha.idxOf x : Nat) : Int) ((alpha.idxOf y : Nat) : Int) = 0
   · rw [if_neg (by simpa using h), if_neg (by simpa using h)]
     rfl
   · rw [if_pos h, if_pos h]
     unfold stepN
     rw [if_pos h]
theorem cmpW_lt (alpha : List Nat) : ∀ a b : List Nat, cmpW alpha a b < 0 ↔ ltL (places alpha a) (places alpha b) = true
 | [], b => by
   unfold cmpW
   rw [List.length_nil, Nat.zero_min]
   show (if (0 : Int) ≠ 0 then (0 : Int) else cmp3 ((0 : Nat) : Int) (b.length : Nat)) < 0 ↔ _
   rw [if_neg (by simp), cmp3_lt]
   cases b with
   | nil => simp [places, ltL]
   | cons y b =>
     refine ⟨fun _ => rfl, fun _ => ?_⟩
     rw [List.length_cons]; lia
 | x :: a, [] => by
   unfold cmpW
   rw [List.length_nil, Nat.min_zero]
   show (if (0 : Int) ≠ 0 then (0 : Int) else cmp3 (((x :: a).length : Nat) : Int) ((0 : Nat) : Int)) < 0 ↔ _
   rw [if_neg (by simp), cmp3_lt]
   constructor
   · intro h
     lia
   · intro h
     cases h
 | x :: a, y :: b => by
   have ih := cmpW_lt alpha a b
   unfold cmpW at ih ⊢
   rw [List.length_cons, List.length_cons, Nat.succ_min_succ, Nat.succ_eq_add_one, accN_cons, cmp3_succ]
   show _ ↔ ltL (((alpha.idxOf x : Nat) : Int) :: places alpha a) (((alpha.idxOf y : Nat) : Int) :: places alpha b) = true
   unfold ltL
   by_cases h : ((alpha.idxOf x : Nat) : Int) = ((alpha.idxOf y : Nat) : Int)
   · have h0 := (cmp3_zero _ _).mpr h
     rw [if_pos h, if_neg (c := cmp3 ((alpha.idxOf x : Nat) : Int) ((alpha.idxOf y : Nat) : Int) ≠ 0) (by simpa using h0)]
     exact ih
   · have h0 : cmp3 ((alpha.idxOf x : Nat) : Int) ((alpha.idxOf y : Nat) : Int) ≠ 0 := fun q => h ((cmp3_zero _ _).mp q)
     rw [if_neg h, if_pos (c := cmp3 ((alpha.idxOf x : Nat) : Int) ((alpha.idxOf y : Nat) : Int) ≠ 0) h0, if_pos h0, cmp3_lt, decide_eq_true_eq]
noncomputable def InOrder (alpha : List Nat) (words res : List (List Nat)) : Prop := res.Perm words ∧ SortedL (res.map (places alpha))
theorem inOrder_of {alpha : List Nat} {words : List (List Nat)} {p : Array Nat} {n : Nat} (hn : words.length = n) (hp : p.toList.Perm (List.range n)) (hs : SortedP (fun i => rankL (words.map (places alpha)) ((words.map (places alpha)).getD i [])) p n) :
   InOrder alpha words (p.toList.map fun i => words.getD i []) := by
 refine el_A (out_sorted (ks := words.map (places alpha)) (by rw [List.length_map]; exact hn) hp hs) ?_; intro h1 h2
 constructor
 · refine (hp.map _).trans ?_
   have : (List.range n).map (fun i => words.getD i []) = words := by
     apply List.ext_getElem (by simp [hn])
     intro i h1 h2
     simp [List.getElem?_eq_getElem h2]
   rw [this]
 · have : ((p.toList.map fun i => words.getD i []).map (places alpha)) = p.toList.map fun i => (words.map (places alpha)).getD i [] := by
     rw [List.map_map]
     refine List.map_congr_left fun i hi => ?_
     have hi' : i < words.length := by rw [hn]; exact List.mem_range.mp (hp.mem_iff.mp hi)
     simp [List.getElem?_eq_getElem hi']
   rw [this]; exact h1
section
variable {prog : Program} {w : World} {A : Around} {s : Shared} {C D p f1 f2 cell : Addr} {m' : PySem.Str → Option Value} {tp : Tok} {T : Addr} {u6 tq : Tok} {P : Adr} {mg mb : PySem.Str → Option Value}
theorem sorted_cmp {ca c' P' I₀ f : Addr} {va : Value} {alpha : List Nat} {words : List (List Nat)} {qual : PySem.Str} {hb : Heap} {vl : Value} {E : Value → Shared → Prop} {Q : Value → Shared → Prop}
   (hroom : A.depth + 10 < recursionLimit) (hh : A.handled = none) (hu : A.units + 10 < cLine) (W : Wd P mg mb hb) (kb : Keep hb s.heap) (hbP : hb.objs.size ≤ P')
   (hD : DefAtD hb P.reduce (stmtAt 4)) (hmiss : mg (Str.ofString "_initial_missing") = some (.ref I₀)) (hB : hb.BuiltinsAt mg P')
   (hf : LamC s.heap f cmpE [(Str.ofString "alphabet", ca)] (.ref c') qual) (hT : TabF c' P' (qual ++ ".<locals>.") s.heap) (h0 : s.heap.IsCell ca (some va)) (hcaP : ca ≠ P')
   (ha : (RL RC).r (fun x => x ≠ P') s.heap va alpha) (hal : alpha.length ≤ 1000) (hz : ∀ l ∈ words, l.length ≤ 100) (hm : ∀ l ∈ words, ∀ c ∈ l, c ∈ alpha)
   (X : KAt s.heap C D p f1 f2 cell (.ref f) m' tp T u6 tq) (hl : (RL RW).r (fun x => x ≠ P') s.heap vl words) (h2 : 2 ≤ words.length) (h7 : words.length ≤ 7)
   (fin : ∀ v s' res, Sm s s' → KeepNot [P'] s.heap s'.heap → (RL RW).r (fun b => s.heap.objs.size ≤ b) s'.heap v res → InOrder alpha words res → Q v s') :
   wpAny (model prog w) A (call (.builtin "sorted") [vl] [(Str.ofString "key", .ref C)]) Q E s := by
 refine el_EEAAA hl ?_; try clear hl; intro l vs zz0 hlP hpl hpr
 obtain rfl := zz0
 have hvl := Paired.length hpr
 obtain ⟨ps, Z, -⟩ := id hT
 have hlim := W.lim.keeps kb
 refine sorted_keyV (N := [P']) (V := VS s.heap c' P' (qual ++ ".<locals>.")) (ks := words) (RK := RInst C) (T := .ref C) (r := fun i => rankL (words.map (places alpha)) ((words.map (places alpha)).getD i [])) ?_ ?_ hpl (by omega) (by omega) hvl.symm ?_ ?_ rfl ?_ ?_ ?_
 · intro b hb
   rw [List.mem_singleton.mp hb]
   exact Heap.lt_size Z.2.2
 · intro s' u
   exact ⟨fun b o _ e => u.keep b o e, hT.keeps u.keep⟩
 · intro i v x s' Q' hv hx u hQ
   refine el_E (Paired.both hpr hv hx) ?_; intro t zz1
   obtain rfl := zz1
   refine wpAny_call (codeAny_mono (inst_make (X.keeps u.keep) (hlim.keeps u.keep) (by show A.depth + 3 < recursionLimit; omega)) fun r s'' H => ?_)
   refine el_EAA H ?_; try clear H; intro kv zz2 u' hr
   obtain rfl := zz2
   exact hQ kv s'' u' hr
 · intro s' kv x _ hr _
   obtain ⟨a, da, ta, rfl, -, -, ga, -⟩ := hr
   exact (Looks.ld ga).andThen .now
 · simp
 · intro i j x y kx ky C' s' hx hy hrx hry V hC
   refine inst_lt (I₀ := I₀) (va := va) (hb := hb) (hs := s.heap) (by show A.depth + 8 < recursionLimit; omega) (by exact hh) (by show A.units + 1 + 1 < cLine; omega) W kb hbP hD hmiss hB hf hT h0 hcaP ha hal (hz _ (List.mem_of_getElem? hx)) (hz _ (List.mem_of_getElem? hy)) (hm _ (List.mem_of_getElem? hx)) (hm _ (List.mem_of_getElem? hy)) X hrx hry V fun s'' V' st k => ?_
   have := hC s'' V' st k
   have hxi : (words.map (places alpha)).getD i [] = places alpha x := by rw [List.getD_eq_getElem?_getD, List.getElem?_map, hx]; rfl
   have hyi : (words.map (places alpha)).getD j [] = places alpha y := by rw [List.getD_eq_getElem?_getD, List.getElem?_map, hy]; rfl
   rw [hxi, hyi, rank_lt (List.mem_map.mpr ⟨x, List.mem_of_getElem? hx, rfl⟩)] at this
   rw [show decide (cmpW alpha x y < 0) = ltL (places alpha x) (places alpha y) by
     rw [Bool.eq_iff_iff, decide_eq_true_eq]; exact cmpW_lt alpha x y]
   exact this
 · intro D q s' st k hD' hp hs hpl'
   have hpick := paired_pick (d := []) hpr (ids := q.toList) (fun i hi => by
     have := List.mem_range.mp (hp.mem_iff.mp hi); omega)
   refine fin (.ref D) s' _ st k ⟨D, _, rfl, hD', hpl', Paired.imp (fun _ _ h => h) hpick⟩ (inOrder_of hvl.symm hp hs)
end
noncomputable def trunc (h : Heap) (n : Nat) : Heap := { h with objs := h.objs.extract 0 n }
theorem trunc_size {h : Heap} {n : Nat} (hn : n ≤ h.objs.size) : (trunc h n).objs.size = n := by
 unfold trunc
 simp [Nat.min_eq_left hn]
theorem trunc_lt {h : Heap} {n b : Nat} (hb : b < n) : (trunc h n).get? b = h.get? b := by
 unfold trunc Heap.get?
 have : (h.objs.extract 0 n)[b]? = h.objs[b]? := by
   rw [Array.getElem?_extract]
   by_cases q : b < h.objs.size
   · rw [if_pos (by lia), Nat.zero_add]
   · rw [if_neg (by lia), Array.getElem?_eq_none (by lia)]
 simp only [this]
theorem trunc_ge {h : Heap} {n b : Nat} (hb : n ≤ b) : (trunc h n).get? b = none := by
 unfold trunc Heap.get?
 have : (h.objs.extract 0 n)[b]? = none := by
   rw [Array.getElem?_eq_none_iff, Array.size_extract]; lia
 simp [this]
theorem trunc_keep (h : Heap) (n : Nat) : Keep (trunc h n) h := fun b o e => by
 by_cases q : b < n
 · rw [trunc_lt q] at e; exact e
 · rw [trunc_ge (Nat.le_of_not_lt q)] at e; cases e
theorem Fz.ground {h₀ g h h' : Heap} {env : Env} {n : Nat} {m : PySem.Str → Option Value} (F : Fz h₀ env n g h m) (hs : h.objs.size ≤ h'.objs.size) (k : ∀ b o, b ≠ env.locals → h₀.objs.size ≤ b → h.get? b = some o → h'.get? b = some o)
   (kl : ∀ ml, h.Ns env.locals ml → h'.Ns env.locals ml) : Fz (trunc h' h₀.objs.size) env n h' h' m := by
 have hsz : h₀.objs.size ≤ h'.objs.size := Nat.le_trans (Nat.le_trans (Nat.le_trans F.lo (Nat.le_of_lt F.hi)) F.top) hs
 refine ⟨trunc_keep _ _, by rw [trunc_size hsz]; exact F.lo, F.hi, Nat.le_trans F.top hs, ?_, fun x a e => ?_, F.apart, KeepOn.refl _ _⟩
 · refine el_EA (F.ns) ?_; intro ml a b
   exact ⟨ml, kl ml a, b⟩
 · refine el_AA (F.cs x a e) ?_; intro zz0 c1 c2
   refine el_EA zz0 ?_; clear zz0; intro oc e1 e2
   exact ⟨⟨oc, k _ _ (Nat.ne_of_gt c1) (Nat.le_trans F.lo (Nat.le_of_lt c1)) e1, e2⟩, c1, c2⟩
theorem ns_slots {h h' : Heap} {a : Addr} {ml : PySem.Str → Option Value} (x : h.Ns a ml) (k : ∀ o, h.get? a = some o → ∃ sl, h'.get? a = some { o with slots := sl }) : h'.Ns a ml := by
 refine el_EEEAA x ?_; try clear x; intro o es ep e1 e2 r
 refine el_E (k o e1) ?_; intro sl e
 exact ⟨_, es, ep, e, e2, r⟩
structure Tb where
 c2 : Addr
 P2 : Addr
 c36 : Addr
 P36 : Addr
 c37 : Addr
 P37 : Addr
 al : Addr
noncomputable abbrev Tb.ps (T : Tb) : List Addr := [T.P2, T.P36, T.P37]
structure Tb.Ok (T : Tb) : Prop where
 a : T.P2 ≠ T.P36
 b : T.P2 ≠ T.P37
 c : T.P36 ≠ T.P37
 c2 : T.c2 ∉ T.ps
 c36 : T.c36 ∉ T.ps
 c37 : T.c37 ∉ T.ps
structure Wx (P : Adr) (T : Tb) (mg mb : PySem.Str → Option Value) (h : Heap) : Prop where
 w : Wd P mg mb h
 dred : DefAtD h P.reduce (stmtAt 4)
 dhenc : DefAtD h P.hencode (stmtAt 19)
 hmap : HMap mg h
 pat : ∃ pat, mg (Str.ofString "_twin_re_1") = some (.ref pat) ∧ IsPat h pat
 fn : ∃ o, h.get? P.unqm = some o ∧ o.cls = .type "function"
 nt : NoThird h
 bAt : ∀ Q, (∀ o, h.get? Q = some o → o.cls = .none) → h.BuiltinsAt mg Q
 d2 : DefC h P.ctk (stmtAt 2) (.ref T.c2)
 d36 : DefC h P.compare (stmtAt 36) (.ref T.c36)
 d37 : DefC h T.al (stmtAt 37) (.ref T.c37)
 gmiss : ∃ I₀, mg (Str.ofString "_initial_missing") = some (.ref I₀)
 gname : ∃ nm, mg (Str.ofString "__name__") = some nm ∧ ∃ x t, nm = .str x t
theorem CodeTab.on {h h' : Heap} {c P : Addr} {ps : Array Value} {N : List Addr} (x : CodeTab h c P ps) (k : KeepNot N h h') (hc : c ∉ N) (hP : P ∉ N) : CodeTab h' c P ps := by
 refine el_AA x ?_; try clear x; intro zz1 zz2 g
 refine el_EEEEEEEEEEAAAAAAAAAA zz1 ?_; clear zz1; intro o vs file tf flags tg inF text tt op e1 e2 e3 e4 e5 e6 e7 e8 e9 e10 e11
 refine el_EEAAA zz2 ?_; clear zz2; intro o2 vs2 f1 f2 f3 f4
 exact ⟨⟨o, vs, file, tf, flags, tg, inF, text, tt, op, k _ _ hc e1, e2, e3, e4, e5, e6, e7, k _ _ hP e8, e9, e10, e11⟩, ⟨o2, vs2, k _ _ hc f1, f2, f3, f4⟩, k _ _ hP g⟩
theorem CodeTab.bAt {P : Adr} {T : Tb} {mg mb : PySem.Str → Option Value} {h : Heap} {c Q : Addr} {ps : Array Value} (X : Wx P T mg mb h) (x : CodeTab h c Q ps) : h.BuiltinsAt mg Q := X.bAt Q fun o e => by
 rw [x.2.2] at e; cases e; rfl
theorem CodeTab.ne {P : Adr} {T : Tb} {mg mb : PySem.Str → Option Value} {h : Heap} {c Q : Addr} {ps : Array Value} (X : Wx P T mg mb h) (x : CodeTab h c Q ps) : mainGlobals ≠ Q := fun q => by
 refine el_EEEAA (X.w.g) ?_; intro o es ep e1 e2 _
 rw [q, x.2.2] at e1; cases e1; cases e2
noncomputable def numsOf (ns : List Int) : List Int := (if ns = [] then [115, 6, 42, 2, 39] else ns).take 6
theorem paired_ints {h : Heap} {vs : List Value} {ns : List Int} (p : IntsAre vs ns) (ok : Addr → Prop) : Paired (RI.r ok h) vs ns := by
 induction p with
 | nil => exact .nil
 | cons n t _ ih => exact .cons ⟨t, rfl⟩ ih
theorem Paired.toInts {h : Heap} {ok : Addr → Prop} {vs : List Value} {ns : List Int} (p : Paired (RI.r ok h) vs ns) : IntsAre vs ns := by
 induction p with
 | nil => exact .nil
 | cons x _ ih => obtain ⟨t, rfl⟩ := x; exact .cons _ t ih
theorem numsOf_ne (ns : List Int) : numsOf ns ≠ [] := by
 unfold numsOf
 split
 · decide
 · rename_i h
   cases ns with
   | nil => exact absurd rfl h
   | cons a r => simp
theorem numsOf_len (ns : List Int) : (numsOf ns).length ≤ 6 := by
 unfold numsOf
 rw [List.length_take]; lia
noncomputable abbrev envW (L al : Addr) (cd : Value) : Env := envOfC (nmOf (stmtAt 37)) (scOf (stmtAt 37)) L al cd
noncomputable abbrev bdW (k : Nat) : List Stmt := (bdOf (stmtAt 37)).drop k
section
variable {prog : Program} {w : World} {A : Around} {E : Value → Shared → Prop} {s : Shared} {P : Adr} {mg mb : PySem.Str → Option Value}
theorem cutG {env : Env} {value : Expr} {lower upper step : Option Expr} {p pos : Pos} {ops : Value → Value → List Value} {Q : Value → Shared → Prop}
   (hs : ∀ o i, subscripted (.Slice lower upper step p) false o i = operate (ops o i) (getItem o i))
   (h : wpAny (model prog w) A (eval value env) (fun o s₁ => wpAny (model prog w) A (evalPart lower env) (fun vl s₂ => wpAny (model prog w) A (evalPart upper env) (fun vu s₃ => wpAny (model prog w) A (evalPart step env) (fun vk s₄ =>
     ∃ l vs lo hi st, o = .ref l ∧ s₄.heap.IsList l (List.toArray vs) ∧ vs.length ≤ 1000 ∧ IsPart vl lo ∧ IsPart vu hi ∧ IsPart vk st ∧ st ≠ some 0 ∧
       ∀ D s', Up s₄ s' → s₄.heap.objs.size ≤ D → s'.heap.PlainList D (slicePick (List.toArray vs) lo hi st) → Q (.ref D) s') E s₃) E s₂) E s₁) E s) :
   wpAny (model prog w) A (eval (.Subscript value (.Slice lower upper step p) pos) env) Q E s := by
 refine Subscript_ (wpAny_mono h (fun o s₁ h₁ => wpAny_Slice (wpAny_mono h₁ (fun vl s₂ h₂ => wpAny_mono h₂ (fun vu s₃ h₃ => wpAny_mono h₃ (fun vk s₄ h₄ => ?_) fun _ _ e => e) fun _ _ e => e) fun _ _ e => e)) fun _ _ e => e)
 refine el_EEEEEAAAAAAA h₄ ?_; try clear h₄; intro l vs lo hi st zz0 hl hz pl pu pk h0 hQ
 obtain rfl := zz0
 have hl' : (s₄.heap.push { cls := .type "slice", data := .fields #[vl, vu, vk] }).IsList l (List.toArray vs) := hl.push _
 have hT : ({ s₄ with heap := s₄.heap.push { cls := .type "slice", data := .fields #[vl, vu, vk] } } : Shared).TypeIs (.ref l) "list" := Heap.IsList.typeIs (s := { s₄ with heap := s₄.heap.push { cls := .type "slice", data := .fields #[vl, vu, vk] } }) hl'
 have main : wpAny (model prog w) A (getItem (.ref l) (.ref s₄.heap.objs.size)) Q E { s₄ with heap := s₄.heap.push { cls := .type "slice", data := .fields #[vl, vu, vk] } } := by
   refine wpAny_getItem_list_slice hl' (Heap.IsSliceOf.new ..) pl pu pk h0 ?_ (by rw [sizeLine_eq, List.size_toArray]; lia)
   show Q (.ref (s₄.heap.push _).objs.size) _
   rw [Heap.size_push]
   refine hQ _ _ ⟨.of _ _, (Keep.push _ _).trans (Keep.push _ _), ?_⟩ (Nat.le_succ _) ⟨0, ?_⟩
   · show _ ≤ ((s₄.heap.push _).push _).objs.size
     rw [Heap.size_push, Heap.size_push]; lia
   · have e1 := Heap.get?_push_size (s₄.heap.push { cls := .type "slice", data := .fields #[vl, vu, vk] }) (o := { cls := .type "list", data := .seq (slicePick (List.toArray vs) lo hi st) }) rfl
     rw [Heap.size_push] at e1
     exact e1
 unfold subscriptTail
 refine wpAny_bind ?_
 rw [getitemInPython_of_ne hT.not_modules]
 refine wpAny_bind (wpAny_specialOf hT list_getitem_lookup ?_)
 have fin : wpAny (model prog w) A (subscripted (.Slice lower upper step p) false (.ref l) (.ref s₄.heap.objs.size)) (fun r s₃ => wpAny (model prog w) A (letTemporaryGo value (.ref l) r >>= fun _ => pure r) Q E s₃) E { s₄ with heap := s₄.heap.push { cls := .type "slice", data := .fields #[vl, vu, vk] } } := by
   rw [hs]
   exact wpAny_operating (wpAny_mono main (fun r s₃ h₃ => wpAny_bind (wpAny_letTemporaryGo (wpAny_pure h₃))) fun _ _ x => x)
 first
   | exact wpAny_pure (wpAny_bind fin)
   | exact wpAny_bind (wpAny_pure (wpAny_bind fin))
   | exact wpAny_bind fin
theorem islK {h h' : Heap} {l : Addr} {its : Array Value} (x : h.IsList l its) (k : Keep h h') : h'.IsList l its := let ⟨o, e, r⟩ := x; ⟨o, k _ _ e, r⟩
theorem truthy_I {l : Addr} {vs : List Value} {Q : Bool → Shared → Prop} (hl : s.heap.IsList l (List.toArray vs)) (hz : vs.length ≤ 1000) (h : ∀ s', Up s s' → Q (!vs.isEmpty) s') : wpAny (model prog w) A (truthy (.ref l)) Q E s := by
 refine wpAny_truthy_list hl (by rw [List.size_toArray]; lia) ?_
 have e : (List.toArray vs).isEmpty = vs.isEmpty := by cases vs <;> rfl
 rw [e]
 exact h _ (Up.toks _)
variable {L al : Addr} {cd : Value} {hb g : Heap} {n : Nat} {m : PySem.Str → Option Value}
theorem seg0 {l : Addr} {vs : List Value} {ns : List Int} {Q : Flow → Shared → Prop} (F : Fz hb (envW L al cd) n g s.heap m) (hm : m (Str.ofString "script") = some (.ref l)) (hl : s.heap.IsList l (List.toArray vs)) (hi : IntsAre vs ns) (hz : ns.length ≤ 63)
   (h : ∀ s' v t m', Fz hb (envW L al cd) n s'.heap s'.heap m' → Sm s s' → m' (Str.ofString "numbers") = some v → m' (Str.ofString "first") = some (.int ((numsOf ns).headD 0) t) → (RL RI).r (fun b => n ≤ b) s'.heap v (numsOf ns) →
     wpAny (model prog w) A (execs (bdW 2) (envW L al cd)) Q E s') :
   wpAny (model prog w) A (execs (bdW 0) (envW L al cd)) Q E s := by
 have hvl := hi.length
 refine wpAny_execs_cons ?_
 exists wpAny_Assign_Name ?_ (by trivial)
 exists cutG (ops := fun o i => [i, o]) (fun _ _ => (by trivial)) ?_
 refine wpAny_mono (Q := fun o s' => ∃ D vs', o = .ref D ∧ s'.heap.IsList D (List.toArray vs') ∧ IntsAre vs' (if ns = [] then [115, 6, 42, 2, 39] else ns) ∧ Up s s') ?_ (fun o s₁ H => ?_) fun _ _ e => e
 · refine BoolOp_or ?_
   exists n_loc F (by trivial) (by trivial) (by trivial) hm ?_
   exists truthy_I hl (by lia) fun s₁ u₁ => ?_
   cases hi with
   | cons k t r => exact ⟨l, _, rfl, islK hl u₁.keep, by rw [if_neg (by simp)]; exact .cons k t r, u₁⟩
   | nil =>
     rw [if_neg (by simp)]
     exists BoolOp_one ?_
     exists List_ ?_
     exists sp_more (by trivial) ?_
     exists wpAny_Constant_int ?_
     exists sp_more (by trivial) ?_
     exists wpAny_Constant_int ?_
     exists sp_more (by trivial) ?_
     exists wpAny_Constant_int ?_
     exists sp_more (by trivial) ?_
     exists wpAny_Constant_int ?_
     exists sp_more (by trivial) ?_
     exists wpAny_Constant_int ?_
     exists spliced_none ?_
     exists newL (by simp) fun D s₃ u₃ hD hl₃ => ?_
     exact ⟨D, _, rfl, hl₃.isList, by rw [if_pos rfl]; exact .cons _ _ (.cons _ _ (.cons _ _ (.cons _ _ (.cons _ _ .nil)))), u₁.trans ⟨⟨u₃.st.gens, u₃.st.drawn, u₃.st.os⟩, u₃.keep, u₃.size⟩⟩
 · refine el_EEAAA H ?_; try clear H; intro D vs' zz1 hl₁ hi₁ u₁
   obtain rfl := zz1
   have hz₁ : vs'.length ≤ 63 := by
     rw [hi₁.length]
     split
     · decide
     · exact hz
   exists evalPart_none_step ?_
   exists evalPart_some_step ?_
   exists wpAny_Constant_int ?_
   exists evalPart_none_step ?_
   refine ⟨D, vs', none, some ((6 : Nat) : Int), none, rfl, ?_, (by lia), .none, .int _ _, .none, (by simp), fun D' s₂ u₂ hD' hl₂ => ?_⟩
   · exact hl₁
   rw [PySem.slicePick_upto'] at hl₂
   have u₂' : Up s s₂ := u₁.trans ((Up.toks _).trans u₂)
   have F₂ := (F.pass u₂').here
   have hnD : n ≤ D' := Nat.le_trans (F.pass u₁).top hD'
   have hnums : ∀ h', h'.PlainList D' ((List.take 6 vs').toArray) → (RL RI).r (fun b => n ≤ b) h' (.ref D') (numsOf ns) := fun h' hp => ⟨D', _, rfl, hnD, hp, Paired.take 6 (paired_ints hi₁ _)⟩
   exists st_loc F₂ (by trivial) (by trivial) (by trivial) fun s₃ F₃ hs₃ sm₃ => ?_
   have hl₃ : s₃.heap.PlainList D' ((List.take 6 vs').toArray) := by
     exact hl₂.at fun o e => F₃.keep _ o (.inr hnD) e
   have hr₃ := hnums _ hl₃
   refine el_EEAAA hr₃ ?_; try clear hr₃; intro _ _ q _ hpl₃ hp₃
   refine wpAny_execs_cons ?_
   exists wpAny_Assign_Name ?_ (by trivial)
   exists Subscript_ ?_
   exists n_loc F₃ (by trivial) (by trivial) (by trivial) upd_eq ?_
   exists wpAny_Constant_int ?_
   obtain ⟨x, r, hx⟩ : ∃ x r, numsOf ns = x :: r := by
     cases q : numsOf ns with
     | nil => exact absurd q (numsOf_ne ns)
     | cons x r => exact ⟨x, r, rfl⟩
   have hp0 : Paired (RI.r (fun b => n ≤ b) s₃.heap) (List.take 6 vs') (numsOf ns) := Paired.take 6 (paired_ints hi₁ _)
   refine el_EAE (Paired.get hp0 (i := 0) (x := x) (by rw [hx]; rfl)) ?_; intro v' hv' t' zz2
   obtain rfl := zz2
   exists item_ hl₃ (by trivial) (by lia) (by lia) (v := .int x t') ?_ ?_
   · rw [List.getElem?_toArray]; exact hv'
   exists st_cell F₃ (by trivial) (by trivial) (by trivial) fun s₄ F₄ hs₄ sm₄ => ?_
   have F₄' := F₄.here
   refine h s₄ (.ref D') t' _ F₄' (u₂'.st.trans (sm₃.trans ⟨sm₄.gens, sm₄.drawn, sm₄.os⟩)) (by trivial) (by rw [hx]; exact upd_eq) ?_
   exact hnums _ (hl₂.at fun o e => F₄.keep _ o (.inr hnD) e)
end
noncomputable def seatOf (f : Int) (k : Nat) : Nat := (Int.fmod (Int.fdiv f 2 + (k : Nat)) 6).toNat
noncomputable def lettersOf (f : Int) : List Nat := (List.range 4).map fun k => ring.getD (seatOf f k) 0
noncomputable def hiddenAt (f : Int) : Nat := (Int.fmod (Int.fdiv f 12) 24).toNat
noncomputable def hiddenOf (f : Int) : List Nat := (ordersN 4 (lettersOf f)).getD (hiddenAt f) []
theorem lettersOf_len (f : Int) : (lettersOf f).length = 4 := by unfold lettersOf; simp
theorem rl_on {α : Type} {R : Rel α} {hb g h : Heap} {env : Env} {n : Nat} {m : PySem.Str → Option Value} {v : Value} {xs : α} (F : Fz hb env n g h m) (r : R.r (fun b => n ≤ b) g v xs) : R.r (fun b => n ≤ b) h v xs :=
 R.up (fun b o hn e => F.keep b o (.inr hn) e) r
theorem rl_all {α : Type} {R : Rel α} {ok : Addr → Prop} {h : Heap} {v : Value} {x : α} (r : R.r ok h v x) : R.r All h v x := R.mono (fun _ _ => trivial) r
section
variable {prog : Program} {w : World} {A : Around} {E : Value → Shared → Prop} {s : Shared} {P : Adr} {mg mb : PySem.Str → Option Value}
variable {L al : Addr} {cd : Value} {hb g : Heap} {n : Nat} {m : PySem.Str → Option Value}
theorem itemX {value slice : Expr} {x : PySem.Str} {l : List Nat} {t u : Tok} {k : Int} {c : Nat} {Q : Value → Shared → Prop} (hx : x = sW l) (hs : subscripted slice false (.str x t) (.int k u) = operate [.str x t, .int k u] (getItem (.str x t) (.int k u)))
   (ht : ∀ r, letTemporaryGo value (.str x t) r = pure ()) (h0 : 0 ≤ k) (hk : k < 100000) (hc : l[k.toNat]? = some c) (h : ∀ t' s', Up s s' → Q (.str (sW [c]) t') s') :
   wpAny (model prog w) A (subscriptTail value slice (.str x t) (.int k u)) Q E s := by
 subst hx
 exact itemW hs ht h0 hk hc h
theorem seg1 {vn : Value} {nums : List Int} {f : Int} {tf : Tok} {Q : Flow → Shared → Prop} (F : Fz hb (envW L al cd) n s.heap s.heap m) (W : Wd P mg mb hb) (hh : A.handled = none) (hroom : A.depth + 20 < recursionLimit)
   (e1 : m (Str.ofString "numbers") = some vn) (e2 : m (Str.ofString "first") = some (.int f tf)) (r1 : (RL RI).r (fun b => n ≤ b) s.heap vn nums)
   (h : ∀ s' vl vo vh m', Fz hb (envW L al cd) n s'.heap s'.heap m' → Sm s s' → m' (Str.ofString "numbers") = some vn → m' (Str.ofString "first") = some (.int f tf) → m' (Str.ofString "letters") = some vl → m' (Str.ofString "orders") = some vo → m' (Str.ofString "hidden") = some vh →
     (RL RI).r (fun b => n ≤ b) s'.heap vn nums → (RL RC).r (fun b => n ≤ b) s'.heap vl (lettersOf f) → (RL (RL RC)).r (fun b => n ≤ b) s'.heap vo (ordersN 4 (lettersOf f)) → (RL RC).r (fun b => n ≤ b) s'.heap vh (hiddenOf f) →
     wpAny (model prog w) A (execs (bdW 5) (envW L al cd)) Q E s') :
   wpAny (model prog w) A (execs (bdW 2) (envW L al cd)) Q E s := by
 have W₀ := W.keeps F.base
 refine wpAny_execs_cons ?_
 exists wpAny_Assign_Name ?_ (by trivial)
 exists ListComp_M (β := Nat) (by trivial) (by decide) (by trivial) (by decide) (by trivial) (fun _ => (by trivial)) ?_
 exists wpAny_Call_NameR ?_
 exists n_bi W₀ (by trivial) (by trivial) (by trivial) (by trivial) (by trivial) (by decide) (W.no "range" (by decide)) PyProof.Rows.boot_range ?_
 exists cw_type (by trivial) ?_
 exists sp_more (by trivial) ?_
 exists wpAny_Constant_int ?_
 exists spliced_none ?_
 exists range_one fun r s₁ t₁ t₂ t₃ u₁ hr => ?_
 have hr' : IsRange s₁.heap r 0 ((4 : Nat) : Int) 1 t₁ t₂ t₃ := hr
 have u₁' : Up s s₁ := ⟨⟨u₁.st.gens, u₁.st.drawn, u₁.st.os⟩, u₁.keep, u₁.size⟩
 have F₁ := (F.pass u₁').here
 exists comp_range (R' := RC) (f := fun k => ring.getD (seatOf f k) 0) (k := 4) hh hr' (small_nat (by decide)) rangeSize_nat (by rw [sizeLine_eq]; decide) ?_ ?_
 · intro i hi t' C s₂ m₂ E' u₂ hC hn hx
   have F₂ := F₁.pass u₂
   exists Subscript_ ?_
   exists wpAny_Constant_str ?_
   exists wpAny_BinOp ?_
   exists wpAny_BinOp ?_
   exists wpAny_BinOp ?_
   have hc := (F₂.cs (Str.ofString "first") _ (by trivial)).1
   rw [e2] at hc
   exists c_cell (by trivial) (by trivial) (by trivial) (by trivial) hc ?_
   exists wpAny_Constant_int ?_
   exists PyProof.Rows.floordiv_int (by decide) ?_ (.inl (PyProof.noPylong_small (by decide)))
   exists c_loc hn (by trivial) (by trivial) (by trivial) hx ?_
   exists PyProof.Rows.add_int ?_
   exists wpAny_Constant_int ?_
   exists PyProof.Rows.mod_int' (by decide) ?_
   have hlo := fmod_lo (Int.fdiv f 2 + (0 + (i : Int))) (n := 6) (by decide)
   have hhi := fmod_hi (Int.fdiv f 2 + (0 + (i : Int))) (n := 6) (by decide)
   have hs : seatOf f i = (Int.fmod (Int.fdiv f 2 + (0 + (i : Int))) 6).toNat := by unfold seatOf; rw [Int.zero_add]
   generalize Int.fmod (Int.fdiv f 2 + (0 + (i : Int))) 6 = z at hlo hhi hs ⊢
   have hlt : z.toNat < ring.length := by show z.toNat < 6; lia
   exists itemX (l := ring) (by trivial) (by trivial) (fun _ => (by trivial)) hlo (by lia) (c := ring.getD z.toNat 0) ?_ fun t5 s₃ u₃ => ?_
   · rw [List.getD_eq_getElem?_getD, List.getElem?_eq_getElem hlt]; rfl
   · refine ⟨⟨⟨u₃.st.gens, u₃.st.drawn, u₃.st.os⟩, u₃.keep, u₃.size⟩, t5, ?_⟩
     rw [hs]
 · intro vl s₂ u₂ hvl
   have F₂ := (F₁.pass u₂).here
   have hvl₂ : (RL RC).r (fun b => n ≤ b) s₂.heap vl (lettersOf f) := (RL RC).mono (fun b hb => Nat.le_trans F₁.top hb) hvl
   have r1₂ := (RL RI).up u₂.keep.on ((RL RI).up u₁'.keep.on r1)
   exists st_cell F₂ (by trivial) (by trivial) (by trivial) fun s₃ F₃ hs₃ sm₃ => ?_
   have r1₃ := rl_on (R := RL RI) F₃ r1₂
   have hvl₃ := rl_on (R := RL RC) F₃ hvl₂
   have F₃ := F₃.here
   have W₃ := W.keeps F₃.base
   refine wpAny_execs_cons ?_
   exists wpAny_Assign_Name ?_ (by trivial)
   exists wpAny_Call_NameR ?_
   exists n_gl W₃ (by trivial) (by trivial) (by trivial) (by trivial) W.gorders ?_
   exists cw_def (by trivial) ?_
   exists sp_more (by trivial) ?_
   exists n_cell F₃ (by trivial) (by trivial) (by trivial) (by trivial) upd_eq ?_
   exists spliced_none ?_
   exists ⟨W₃.dorders.fn, ?_⟩
   exists call_ret (c_orders 4 (by lia) hh W₃ (rl_all hvl₃) (lettersOf_len f) (by decide)) fun vo s₄ u₄ hvo => ?_
   have F₄ := (F₃.pass u₄).here
   have hvo₄ : (RL (RL RC)).r (fun b => n ≤ b) s₄.heap vo (ordersN 4 (lettersOf f)) := (RL (RL RC)).mono (fun b hb => Nat.le_trans F₃.top hb) hvo
   exists st_loc F₄ (by trivial) (by trivial) (by trivial) fun s₅ F₅ hs₅ sm₅ => ?_
   have hvo₅ := rl_on (R := RL (RL RC)) F₅ hvo₄
   have hvl₅ := rl_on (R := RL RC) F₅ ((RL RC).up u₄.keep.on hvl₃)
   have r1₅ := rl_on (R := RL RI) F₅ ((RL RI).up u₄.keep.on r1₃)
   have F₅ := F₅.here
   refine wpAny_execs_cons ?_
   exists wpAny_Assign_Name ?_ (by trivial)
   exists Subscript_ ?_
   exists n_loc F₅ (by trivial) (by trivial) (by trivial) upd_eq ?_
   exists wpAny_BinOp ?_
   exists wpAny_BinOp ?_
   exists n_cell F₅ (by trivial) (by trivial) (by trivial) (by trivial) (v := .int f tf) ?_ ?_
   · exact e2
   exists wpAny_Constant_int ?_
   exists PyProof.Rows.floordiv_int (by decide) ?_ (.inl (PyProof.noPylong_small (by decide)))
   exists wpAny_Constant_int ?_
   exists PyProof.Rows.mod_int' (by decide) ?_
   have hlo := fmod_lo (Int.fdiv f 12) (n := 24) (by decide)
   have hhi := fmod_hi (Int.fdiv f 12) (n := 24) (by decide)
   have hs : hiddenAt f = (Int.fmod (Int.fdiv f 12) 24).toNat := rfl
   have hho : hiddenOf f = (ordersN 4 (lettersOf f)).getD (hiddenAt f) [] := rfl
   rw [hs] at hho
   generalize Int.fmod (Int.fdiv f 12) 24 = z at hlo hhi hho ⊢
   refine el_EEAAA hvo₅ ?_; try clear hvo₅; intro ao vs zz0 hao hplo hpo
   obtain rfl := zz0
   have hzl : z.toNat < (ordersN 4 (lettersOf f)).length := by
     rw [ordersN_size 4 _ (lettersOf_len f)]
     show z.toNat < 24
     lia
   refine el_EA (Paired.get hpo (List.getElem?_eq_getElem hzl)) ?_; intro vh hv hrh
   exists item_ hplo (by trivial) hlo (by lia) (v := vh) ?_ ?_
   · rw [List.getElem?_toArray]; exact hv
   have hho' : hiddenOf f = (ordersN 4 (lettersOf f))[z.toNat] := by
     rw [hho, List.getD_eq_getElem?_getD, List.getElem?_eq_getElem hzl]; rfl
   rw [← hho'] at hrh
   exists st_cell F₅ (by trivial) (by trivial) (by trivial) fun s₆ F₆ hs₆ sm₆ => ?_
   have us : Sm s s₆ := u₁'.st.trans (u₂.st.trans (sm₃.trans (u₄.st.trans (sm₅.trans ⟨sm₆.gens, sm₆.drawn, sm₆.os⟩))))
   refine h s₆ vl (.ref ao) vh _ F₆.here us ?_ ?_ ?_ ?_ ?_ ?_ ?_ ?_ ?_
   · exact e1
   · exact e2
   · with_unfolding_all rfl
   · with_unfolding_all rfl
   · with_unfolding_all rfl
   · exact rl_on (R := RL RI) F₆ r1₅
   · exact rl_on (R := RL RC) F₆ hvl₅
   · exact rl_on (R := RL (RL RC)) F₆ ⟨ao, vs, rfl, hao, hplo, hpo⟩
   · exact rl_on (R := RL RC) F₆ hrh
end
noncomputable abbrev asgV : Stmt → PySem.Expr
 | .Assign _ v _ => v
 | _ => .Constant .none 0 default
noncomputable abbrev thenOf : PySem.Expr → PySem.Expr
 | .IfExp _ b _ _ => b
 | e => e
noncomputable abbrev kwV : PySem.Expr → PySem.Expr
 | .Call _ _ (k :: _) _ => k.value
 | e => e
noncomputable abbrev rightOf : PySem.Expr → PySem.Expr
 | .Compare _ _ (e :: _) _ => e
 | e => e
noncomputable abbrev key1E : PySem.Expr := kwV (thenOf (asgV ((bdOf (stmtAt 37)).getD 6 (.Pass default))))
noncomputable abbrev key2E : PySem.Expr := kwV (rightOf (retOf ((bdOf (stmtAt 37)).getD 15 (.Pass default))))
section
variable {prog : Program} {w : World} {A : Around} {E : Value → Shared → Prop} {s : Shared} {P : Adr} {mg mb : PySem.Str → Option Value} {env : Env}
theorem Call_NameKw {M : Model} {id : PySem.Str} {p pos : Pos} {args : List Expr} {kws : List Keyword} {Q : Value → Shared → Prop}
   (h : wpAny M A (eval (.Name id p) env) (fun f s₁ => wpAny M A (callWith pos f [] (backTo pos (starEach args env)) (backToKw pos (keywordEach kws env))) Q E s₁) E s) :
   wpAny M A (eval (.Call (.Name id p) args kws pos) env) Q E s := by
 show wpAny M A (do callWith pos (← eval (.Name id p) env) [] (backTo pos (starEach args env)) (backToKw pos (keywordEach kws env))) Q E s
 exact wpAny_bind h
theorem cw_kw {pos kp : Pos} {id : String} {e ke : Expr} {kn : PySem.Str} {Q : Value → Shared → Prop} (he : notStar e = true)
   (h : wpAny (model prog w) A (eval e env) (fun v s₁ => wpAny (model prog w) A (eval ke env) (fun k s₂ => wpAny (model prog w) A (call (.builtin id) [v] [(kn, k)]) Q E s₂) E s₁) E s) :
   wpAny (model prog w) A (callWith pos (.builtin id) [] (backTo pos (starEach [e] env)) (backToKw pos (keywordEach [⟨some kn, ke, kp⟩] env))) Q E s := by
 have e1 : starEach [e] env = (false, eval e env) :: starEach [] env := star_of he
 refine callWith_builtin_kwB (by rw [e1]; rfl) (by rfl) ?_
 rw [e1]
 refine evalArgs_kwB (by rfl) ?_
 have e2 : ((false, eval e env) :: List.map (fun x => (x.1, do let v ← x.2; standAt pos; pure v)) (starEach [] env)) = (false, eval e env) :: [] := rfl
 refine Calls.spliced_cons (wpAny_mono h (fun v s₁ h₁ => Calls.spliced_nil (kws_cons (wpAny_mono h₁ (fun k s₂ h₂ => kws_nil h₂) fun _ _ x => x))) fun _ _ x => x)
theorem c_key1 {f ca c' : Addr} {va : Value} {alpha l : List Nat} {t : Tok} {qual : PySem.Str} (hroom : A.depth + 1 < recursionLimit) (hh : A.handled = none) (W : Wd P mg mb s.heap) (hf : LamC s.heap f key1E [(Str.ofString "hidden", ca)] (.ref c') qual)
   (hc : s.heap.IsCell ca (some va)) (ha : (RL RC).r All s.heap va alpha) (hal : alpha.length ≤ 100) (hl : l.length ≤ 100) (hm : ∀ c ∈ l, c ∈ alpha) :
   codeAny (model prog w) A (.call (.ref f) ⟨[.str (sW l) t], []⟩) (RetD (RL RI) (places alpha l) s) s := by
 refine el_A hf ?_; try clear hf; intro zz0 e2
 refine el_EEE zz0 ?_; clear zz0; intro name pm ctv e1
 refine kla_callFunE (fd := kla_fn name qual (lamP key1E) (lamB key1E) (lamS key1E) [(Str.ofString "hidden", ca)] pm (.ref c') ctv) (by omega) e1 rfl rfl rfl rfl e2 ?_
 have hbind : bindArgs (kla_fn name qual (lamP key1E) (lamB key1E) (lamS key1E) [(Str.ofString "hidden", ca)] pm (.ref c') ctv) ⟨[.str (sW l) t], []⟩ = pure [(Str.ofString "word", .str (sW l) t)] := rfl
 rw [hbind]
 refine wpAny_pure (wpAny_newFunctionEnv (show ∀ x ∈ (lamS key1E).names, x.2 ≠ .cell by decide) (fun x hx => by rw [List.mem_singleton.mp hx]; exact (by trivial)) (fun h₁ hns hsb => ⟨W.lim.fresh _ hsb, ?_⟩) rfl)
 have hk₁ : Keep s.heap h₁ := fun b o e => hsb.extBut b o (Nat.ne_of_lt (Heap.lt_size e)) (Heap.get?_push_of_some _ e)
 have hsz : s.heap.objs.size ≤ h₁.objs.size := Nat.le_of_lt hns.lt
 refine kla_codeExpr ?_
 show wpAny (model prog w) _ (eval (lamB key1E) (newEnv (lamS key1E) s.heap.objs.size mainGlobals [(Str.ofString "hidden", ca)] (qual ++ ".<locals>.") (some f) (.ref c') none builtinsNs)) _ _ { s with heap := h₁, toks := s.toks + 1 }
 have u₁ : Up s { s with heap := h₁, toks := s.toks + 1 } := ⟨⟨rfl, rfl, rfl⟩, hk₁, hsz⟩
 have hns' : ({ s with heap := h₁, toks := s.toks + 1 } : Shared).heap.Ns s.heap.objs.size (fun x => List.lookup x (List.reverse [(Str.ofString "word", Value.str (sW l) t)])) := hns
 generalize ({ s with heap := h₁, toks := s.toks + 1 } : Shared) = s₁ at u₁ hns'
 generalize henv : newEnv (lamS key1E) s.heap.objs.size mainGlobals [(Str.ofString "hidden", ca)] (qual ++ ".<locals>.") (some f) (.ref c') none builtinsNs = env
 have hcells : env.cells = [(Str.ofString "hidden", ca)] := by rw [← henv]; rfl
 have hloc : env.locals = s.heap.objs.size := by rw [← henv]; rfl
 rw [← hloc] at hns'
 have W₁ := W.up u₁
 refine wpAny_Call_NameR ?_
 exists n_gl W₁ (by rw [← henv]; with_unfolding_all rfl) (by rw [← henv]; with_unfolding_all rfl) (by rw [← henv]; with_unfolding_all rfl) (by trivial) W.gplaces ?_
 exists cw_def (by trivial) ?_
 exists sp_more (by trivial) ?_
 exists e_free (by rw [hcells]; with_unfolding_all rfl) (by rw [← henv]; with_unfolding_all rfl) (by rw [← henv]; with_unfolding_all rfl) (by trivial) (by trivial) (cellUp hc u₁) ?_
 exists sp_more (by trivial) ?_
 exists e_loc hns' (by rw [← henv]; with_unfolding_all rfl) (by rw [← henv]; with_unfolding_all rfl) (by trivial) (by trivial) ?_
 exists spliced_none ?_
 exists ⟨W₁.dplaces.fn, ?_⟩
 exists call_ret (c_places (room0 (by exact hroom)) (deep_none hh _) W₁ ((RL RC).at ha u₁) (by omega) (by omega) hm) fun v s₂ u₂ hv => ?_
 exact ⟨v, rfl, u₁.trans u₂, (RL RI).mono (fun b hb => Nat.le_trans u₁.size hb) hv⟩
theorem sorted_key1 {f ca c' : Addr} {va vl : Value} {alpha : List Nat} {words : List (List Nat)} {qual : PySem.Str} {Q : Value → Shared → Prop}
   (hroom : A.depth + 10 < recursionLimit) (hh : A.handled = none) (hu : A.units + 10 < cLine) (W : Wd P mg mb s.heap) (hf : LamC s.heap f key1E [(Str.ofString "hidden", ca)] (.ref c') qual)
   (hc : s.heap.IsCell ca (some va)) (ha : (RL RC).r All s.heap va alpha) (hal : alpha.length ≤ 100) (hz : ∀ l ∈ words, l.length ≤ 100) (hm : ∀ l ∈ words, ∀ c ∈ l, c ∈ alpha)
   (hl : (RL RW).r All s.heap vl words) (h2 : 2 ≤ words.length) (h7 : words.length ≤ 7)
   (fin : ∀ v s' res, Up s s' → (RL RW).r (fun b => s.heap.objs.size ≤ b) s'.heap v res → InOrder alpha words res → Q v s') :
   wpAny (model prog w) A (call (.builtin "sorted") [vl] [(Str.ofString "key", .ref f)]) Q E s := by
 refine el_EEAAA hl ?_; try clear hl; intro l vs zz1 hlP hpl hpr
 obtain rfl := zz1
 have hvl := Paired.length hpr
 refine sorted_key (ks := words.map (places alpha)) (RK := RL RI) (T := .type "list") (r := fun i => rankL (words.map (places alpha)) ((words.map (places alpha)).getD i [])) hpl (by omega) (by omega) (by rw [List.length_map]; exact hvl.symm) ?_ ?_ rfl rfl ?_ ?_
 · intro i v x s' Q' hv hx u hQ
   rw [List.getElem?_map] at hx
   refine el_EA (Option.map_eq_some_iff.mp hx) ?_; intro y hy zz2
   obtain rfl := zz2
   refine el_E (Paired.both hpr hv hy) ?_; intro t zz3
   obtain rfl := zz3
   have hym := List.mem_of_getElem? hy
   refine call_ret (c_key1 (by show A.depth + 1 < recursionLimit; omega) (by exact hh) (W.up u) ⟨let ⟨a, b, c, d⟩ := hf.1; ⟨a, b, c, u.keep _ _ d⟩, hf.2.keeps u.keep⟩ (cellUp hc u) ((RL RC).at ha u) hal (hz _ hym) (hm _ hym)) fun kv s'' u' hr => ?_
   exact hQ kv s'' u' hr
 · intro s' kv x _ hr _
   refine el_EEAAA hr ?_; try clear hr; intro a its zz4 _ hpl' _
   obtain rfl := zz4
   exact looks_list hpl'
 · intro i j x y kx ky C' s' hx hy hrx hry u hC
   refine keyLt_ints (by show A.units + 1 + 1 < cLine; omega) hrx hry ?_
   have := hC s' (Up.refl s')
   rw [getElem?_getD hx, getElem?_getD hy, rank_lt (List.mem_of_getElem? hx)] at this
   exact this
 · intro D q s' u hD' hp hs hpl'
   have hpick := paired_pick (d := []) hpr (ids := q.toList) (fun i hi => by
     have := List.mem_range.mp (hp.mem_iff.mp hi); omega)
   exact fin (.ref D) s' _ u ⟨D, _, rfl, hD', hpl', Paired.imp (fun _ _ h => h) hpick⟩ (inOrder_of hvl.symm hp hs)
theorem c_key2 {f ca c' : Addr} {va : Value} {alpha l : List Nat} {t : Tok} {qual : PySem.Str} (hroom : A.depth + 1 < recursionLimit) (hh : A.handled = none) (W : Wd P mg mb s.heap) (hf : LamC s.heap f key2E [(Str.ofString "alphabet", ca)] (.ref c') qual)
   (hc : s.heap.IsCell ca (some va)) (ha : (RL RC).r All s.heap va alpha) (hal : alpha.length ≤ 100) (hl : l.length ≤ 100) (hm : ∀ c ∈ l, c ∈ alpha) :
   codeAny (model prog w) A (.call (.ref f) ⟨[.str (sW l) t], []⟩) (RetD (RL RI) (places alpha l) s) s := by
 refine el_A hf ?_; try clear hf; intro zz5 e2
 refine el_EEE zz5 ?_; clear zz5; intro name pm ctv e1
 refine kla_callFunE (fd := kla_fn name qual (lamP key2E) (lamB key2E) (lamS key2E) [(Str.ofString "alphabet", ca)] pm (.ref c') ctv) (by omega) e1 rfl rfl rfl rfl e2 ?_
 have hbind : bindArgs (kla_fn name qual (lamP key2E) (lamB key2E) (lamS key2E) [(Str.ofString "alphabet", ca)] pm (.ref c') ctv) ⟨[.str (sW l) t], []⟩ = pure [(Str.ofString "word", .str (sW l) t)] := rfl
 rw [hbind]
 refine wpAny_pure (wpAny_newFunctionEnv (show ∀ x ∈ (lamS key2E).names, x.2 ≠ .cell by decide) (fun x hx => by rw [List.mem_singleton.mp hx]; exact (by trivial)) (fun h₁ hns hsb => ⟨W.lim.fresh _ hsb, ?_⟩) rfl)
 have hk₁ : Keep s.heap h₁ := fun b o e => hsb.extBut b o (Nat.ne_of_lt (Heap.lt_size e)) (Heap.get?_push_of_some _ e)
 have hsz : s.heap.objs.size ≤ h₁.objs.size := Nat.le_of_lt hns.lt
 refine kla_codeExpr ?_
 show wpAny (model prog w) _ (eval (lamB key2E) (newEnv (lamS key2E) s.heap.objs.size mainGlobals [(Str.ofString "alphabet", ca)] (qual ++ ".<locals>.") (some f) (.ref c') none builtinsNs)) _ _ { s with heap := h₁, toks := s.toks + 1 }
 have u₁ : Up s { s with heap := h₁, toks := s.toks + 1 } := ⟨⟨rfl, rfl, rfl⟩, hk₁, hsz⟩
 have hns' : ({ s with heap := h₁, toks := s.toks + 1 } : Shared).heap.Ns s.heap.objs.size (fun x => List.lookup x (List.reverse [(Str.ofString "word", Value.str (sW l) t)])) := hns
 generalize ({ s with heap := h₁, toks := s.toks + 1 } : Shared) = s₁ at u₁ hns'
 generalize henv : newEnv (lamS key2E) s.heap.objs.size mainGlobals [(Str.ofString "alphabet", ca)] (qual ++ ".<locals>.") (some f) (.ref c') none builtinsNs = env
 have hcells : env.cells = [(Str.ofString "alphabet", ca)] := by rw [← henv]; rfl
 have hloc : env.locals = s.heap.objs.size := by rw [← henv]; rfl
 rw [← hloc] at hns'
 have W₁ := W.up u₁
 refine wpAny_Call_NameR ?_
 exists n_gl W₁ (by rw [← henv]; with_unfolding_all rfl) (by rw [← henv]; with_unfolding_all rfl) (by rw [← henv]; with_unfolding_all rfl) (by trivial) W.gplaces ?_
 exists cw_def (by trivial) ?_
 exists sp_more (by trivial) ?_
 exists e_free (by rw [hcells]; with_unfolding_all rfl) (by rw [← henv]; with_unfolding_all rfl) (by rw [← henv]; with_unfolding_all rfl) (by trivial) (by trivial) (cellUp hc u₁) ?_
 exists sp_more (by trivial) ?_
 exists e_loc hns' (by rw [← henv]; with_unfolding_all rfl) (by rw [← henv]; with_unfolding_all rfl) (by trivial) (by trivial) ?_
 exists spliced_none ?_
 exists ⟨W₁.dplaces.fn, ?_⟩
 exists call_ret (c_places (room0 (by exact hroom)) (deep_none hh _) W₁ ((RL RC).at ha u₁) (by omega) (by omega) hm) fun v s₂ u₂ hv => ?_
 exact ⟨v, rfl, u₁.trans u₂, (RL RI).mono (fun b hb => Nat.le_trans u₁.size hb) hv⟩
theorem sorted_key2 {f ca c' : Addr} {va vl : Value} {alpha : List Nat} {words : List (List Nat)} {qual : PySem.Str} {Q : Value → Shared → Prop}
   (hroom : A.depth + 10 < recursionLimit) (hh : A.handled = none) (hu : A.units + 10 < cLine) (W : Wd P mg mb s.heap) (hf : LamC s.heap f key2E [(Str.ofString "alphabet", ca)] (.ref c') qual)
   (hc : s.heap.IsCell ca (some va)) (ha : (RL RC).r All s.heap va alpha) (hal : alpha.length ≤ 100) (hz : ∀ l ∈ words, l.length ≤ 100) (hm : ∀ l ∈ words, ∀ c ∈ l, c ∈ alpha)
   (hl : (RL RW).r All s.heap vl words) (h2 : 2 ≤ words.length) (h7 : words.length ≤ 7)
   (fin : ∀ v s' res, Up s s' → (RL RW).r (fun b => s.heap.objs.size ≤ b) s'.heap v res → InOrder alpha words res → Q v s') :
   wpAny (model prog w) A (call (.builtin "sorted") [vl] [(Str.ofString "key", .ref f)]) Q E s := by
 refine el_EEAAA hl ?_; try clear hl; intro l vs zz6 hlP hpl hpr
 obtain rfl := zz6
 have hvl := Paired.length hpr
 refine sorted_key (ks := words.map (places alpha)) (RK := RL RI) (T := .type "list") (r := fun i => rankL (words.map (places alpha)) ((words.map (places alpha)).getD i [])) hpl (by omega) (by omega) (by rw [List.length_map]; exact hvl.symm) ?_ ?_ rfl rfl ?_ ?_
 · intro i v x s' Q' hv hx u hQ
   rw [List.getElem?_map] at hx
   refine el_EA (Option.map_eq_some_iff.mp hx) ?_; intro y hy zz7
   obtain rfl := zz7
   refine el_E (Paired.both hpr hv hy) ?_; intro t zz8
   obtain rfl := zz8
   have hym := List.mem_of_getElem? hy
   refine call_ret (c_key2 (by show A.depth + 1 < recursionLimit; omega) (by exact hh) (W.up u) ⟨let ⟨a, b, c, d⟩ := hf.1; ⟨a, b, c, u.keep _ _ d⟩, hf.2.keeps u.keep⟩ (cellUp hc u) ((RL RC).at ha u) hal (hz _ hym) (hm _ hym)) fun kv s'' u' hr => ?_
   exact hQ kv s'' u' hr
 · intro s' kv x _ hr _
   refine el_EEAAA hr ?_; try clear hr; intro a its zz9 _ hpl' _
   obtain rfl := zz9
   exact looks_list hpl'
 · intro i j x y kx ky C' s' hx hy hrx hry u hC
   refine keyLt_ints (by show A.units + 1 + 1 < cLine; omega) hrx hry ?_
   have := hC s' (Up.refl s')
   rw [getElem?_getD hx, getElem?_getD hy, rank_lt (List.mem_of_getElem? hx)] at this
   exact this
 · intro D q s' u hD' hp hs hpl'
   have hpick := paired_pick (d := []) hpr (ids := q.toList) (fun i hi => by
     have := List.mem_range.mp (hp.mem_iff.mp hi); omega)
   exact fin (.ref D) s' _ u ⟨D, _, rfl, hD', hpl', Paired.imp (fun _ _ h => h) hpick⟩ (inOrder_of hvl.symm hp hs)
end
noncomputable def drawnOf (ns : List Int) (f : Int) : List (List Nat) := ns.tail.map (wordOf (lettersOf f)) ++ [[(lettersOf f).getD 2 0], [(lettersOf f).getD 0 0]]
section
variable {prog : Program} {w : World} {A : Around} {E : Value → Shared → Prop} {s : Shared} {P : Adr} {mg mb : PySem.Str → Option Value}
variable {L al : Addr} {cd : Value} {hb g : Heap} {n : Nat} {m : PySem.Str → Option Value}
theorem letter_at {vl : Value} {cs : List Nat} {kk : Int} {kp : Pos} {np sp : Pos} {Q : Value → Shared → Prop} {env : Env} (k : Nat) (hkk : kk = (k : Nat)) (hk : k < cs.length) (hz : k < 1000) (hr : (RL RC).r All s.heap vl cs)
   (hx : ∀ (Q' : Value → Shared → Prop), Q' vl s → wpAny (model prog w) A (eval (.Name (Str.ofString "letters") np) env) Q' E s)
   (h : ∀ t s', Up s s' → Q (.str (sW [cs.getD k 0]) t) s') :
   wpAny (model prog w) A (eval (.Subscript (.Name (Str.ofString "letters") np) (.Constant (.int kk) 0 kp) sp) env) Q E s := by
 subst hkk
 exists Subscript_ ?_
 refine hx _ ?_
 exists wpAny_Constant_int ?_
 refine el_EEAAA hr ?_; try clear hr; intro a vs zz0 _ hpl hp
 obtain rfl := zz0
 have ec : cs[k]? = some (cs.getD k 0) := by rw [List.getD_eq_getElem?_getD, List.getElem?_eq_getElem hk]; rfl
 refine el_EAE (Paired.get hp ec) ?_; intro v hv t zz1
 obtain rfl := zz1
 exists item_ hpl (by trivial) (by lia) (by lia) (v := .str (sW [cs.getD k 0]) t) ?_ ?_
 · rw [List.getElem?_toArray, Int.toNat_natCast]; exact hv
 · exact h t _ (Up.toks _)
theorem seg2 {vn vl : Value} {nums : List Int} {f : Int} {Q : Flow → Shared → Prop} (F : Fz hb (envW L al cd) n s.heap s.heap m) (W : Wd P mg mb hb) (hh : A.handled = none) (hroom : A.depth + 20 < recursionLimit)
   (e1 : m (Str.ofString "numbers") = some vn) (e3 : m (Str.ofString "letters") = some vl) (r1 : (RL RI).r (fun b => n ≤ b) s.heap vn nums) (hz : nums.length ≤ 6) (r3 : (RL RC).r (fun b => n ≤ b) s.heap vl (lettersOf f))
   (h : ∀ s' vd, Up s s' → (RL RW).r (fun b => n ≤ b) s'.heap vd (drawnOf nums f) → wpAny (model prog w) A (storeName (envW L al cd) (Str.ofString "drawn") vd) (fun _ s'' => wpAny (model prog w) A (execs (bdW 6) (envW L al cd)) Q E s'') E s') :
   wpAny (model prog w) A (execs (bdW 5) (envW L al cd)) Q E s := by
 have W₀ := W.keeps F.base
 refine wpAny_execs_cons ?_
 exists wpAny_Assign_Name ?_ (by trivial)
 exists wpAny_BinOp ?_
 exists ListComp_M (β := List Nat) (by trivial) (by decide) (by trivial) (by decide) (by trivial) (fun _ => (by trivial)) ?_
 exists cutG (ops := fun o i => [i, o]) (fun _ _ => (by trivial)) ?_
 exists n_loc F (by trivial) (by trivial) (by trivial) e1 ?_
 exists evalPart_some_step ?_
 exists wpAny_Constant_int ?_
 exists evalPart_none_step ?_
 exists evalPart_none_step ?_
 refine el_EEAAA r1 ?_; try clear r1; intro an vs zz2 han hpln hpn
 obtain rfl := zz2
 have hnl := Paired.length hpn
 refine ⟨an, vs, some ((1 : Nat) : Int), none, none, rfl, hpln.isList, by lia, .int _ _, .none, .none, (by simp), fun D s₁ u₁ hD hl₁ => ?_⟩
 rw [PySem.slicePick_from'] at hl₁
 have u₁' : Up s s₁ := ⟨⟨u₁.st.gens, u₁.st.drawn, u₁.st.os⟩, u₁.keep, u₁.size⟩
 have F₁ := (F.pass u₁').here
 have hcell := (F₁.cs (Str.ofString "letters") _ (by trivial)).1
 rw [e3] at hcell
 have r3₁ := (RL RC).up u₁'.keep.on r3
 have hnl1 : (RL RI).r All s₁.heap (.ref D) nums.tail := ⟨D, _, rfl, trivial, hl₁, by rw [← List.drop_one]; exact Paired.imp (fun _ _ q => q) (Paired.drop 1 hpn)⟩
 exists comp_list (R := RI) (R' := RW) (f := wordOf (lettersOf f)) hh hnl1 (by rw [sizeLine_eq, List.length_tail]; lia) ?_ ?_
 · intro i v k C s₂ m₂ E' hi hRv u₂ hC hn hx
   refine el_E hRv ?_; try clear hRv; intro tk zz3
   obtain rfl := zz3
   have W₂ := (W.keeps F₁.base).up u₂
   exists wpAny_Call_NameR ?_
   exists n_gl W₂ (by trivial) (by trivial) (by trivial) (by trivial) W.gword ?_
   exists cw_def (by trivial) ?_
   exists sp_more (by trivial) ?_
   exists c_loc hn (by trivial) (by trivial) (by trivial) hx ?_
   exists sp_more (by trivial) ?_
   exists c_cell (by trivial) (by trivial) (by trivial) (by trivial) (cellUp hcell u₂) ?_
   exists spliced_none ?_
   exists ⟨W₂.dword.fn, ?_⟩
   exists call_ret (c_word (by lia) hh W₂ (rl_all ((RL RC).up u₂.keep.on r3₁)) (lettersOf_len f)) fun v' s₃ u₃ hv' => ?_
   exact ⟨u₃, hv'⟩
 · intro vw s₂ u₂ hvw
   refine el_EEAAA hvw ?_; try clear hvw; intro aw ws zz4 haw hplw hpw
   obtain rfl := zz4
   have F₂ := (F₁.pass u₂).here
   have r3₂ := (RL RC).up u₂.keep.on r3₁
   have hcell₂ := (F₂.cs (Str.ofString "letters") _ (by trivial)).1
   rw [e3] at hcell₂
   exists List_ ?_
   exists sp_more (by trivial) ?_
   exists letter_at 2 (by decide) (by rw [lettersOf_len]; decide) (by decide) (rl_all r3₂) (fun Q' hq => by with_reducible exact n_cell F₂ (by trivial) (by trivial) (by trivial) (by trivial) e3 hq) fun t2 s₃ u₃ => ?_
   exists sp_more (by trivial) ?_
   exists letter_at 0 (by decide) (by rw [lettersOf_len]; decide) (by decide) (rl_all ((RL RC).up u₃.keep.on r3₂)) (fun Q' hq => by with_reducible exact n_cell (F₂.pass u₃) (by trivial) (by trivial) (by trivial) (by trivial) e3 hq) fun t3 s₄ u₄ => ?_
   exists spliced_none ?_
   exists newL (by simp) fun D2 s₅ u₅ hD2 hl₅ => ?_
   have hwl := Paired.length hpw
   rw [List.length_map, List.length_tail] at hwl
   have u₂₅ := u₃.trans (u₄.trans u₅)
   exists addL (plUp hplw u₂₅) hl₅ (by simp; lia) fun D3 s₆ u₆ hD3 hl₆ => ?_
   refine h s₆ (.ref D3) (u₁'.trans (u₂.trans (u₂₅.trans u₆))) ⟨D3, _, rfl, Nat.le_trans (F₂.pass u₂₅).top hD3, hl₆, ?_⟩
   exact Paired.append (Paired.imp (fun _ _ q => q) hpw) (.cons ⟨t2, rfl⟩ (.cons ⟨t3, rfl⟩ .nil))
end
theorem hidden_perm (f : Int) : (hiddenOf f).Perm (lettersOf f) := by
 have hlo := fmod_lo (Int.fdiv f 12) (n := 24) (by decide)
 have hhi := fmod_hi (Int.fdiv f 12) (n := 24) (by decide)
 have hlt : hiddenAt f < (ordersN 4 (lettersOf f)).length := by
   rw [ordersN_size 4 _ (lettersOf_len f)]
   show (Int.fmod (Int.fdiv f 12) 24).toNat < 24
   lia
 refine (ordersN_perm 4 (lettersOf f) _ (lettersOf_len f)).mp ?_
 unfold hiddenOf
 rw [List.getD_eq_getElem?_getD, List.getElem?_eq_getElem hlt]
 exact List.getElem_mem hlt
structure Row (letters : List Nat) (words : List (List Nat)) : Prop where
 two : 2 ≤ words.length
 seven : words.length ≤ 7
 short : ∀ l ∈ words, l.length ≤ 3
 mem : ∀ l ∈ words, ∀ c ∈ l, c ∈ letters
theorem Row.perm {letters : List Nat} {words res : List (List Nat)} (x : Row letters words) (p : res.Perm words) : Row letters res :=
 ⟨by rw [p.length_eq]; exact x.two, by rw [p.length_eq]; exact x.seven, fun l h => x.short l (p.mem_iff.mp h), fun l h => x.mem l (p.mem_iff.mp h)⟩
theorem wordOf_ok {letters : List Nat} (h4 : letters.length = 4) (k : Int) : (wordOf letters k).length ≤ 3 ∧ ∀ c ∈ wordOf letters k, c ∈ letters := by
 have hlo := fmod_lo k (n := 4) (by decide)
 have hhi := fmod_hi k (n := 4) (by decide)
 unfold wordOf
 constructor
 · rw [List.length_map, List.length_range]; lia
 · intro c hc
   refine el_EA (List.mem_map.mp hc) ?_; intro i _ zz0
   obtain rfl := zz0
   have hd := draw_lt k i
   rw [List.getD_eq_getElem?_getD, List.getElem?_eq_getElem (by lia)]
   exact List.getElem_mem _
theorem drawn_row {nums : List Int} (hne : nums ≠ []) (hz : nums.length ≤ 6) (f : Int) : Row (lettersOf f) (drawnOf nums f) := by
 have h4 := lettersOf_len f
 have hl : (drawnOf nums f).length = nums.length - 1 + 2 := by
   unfold drawnOf
   rw [List.length_append, List.length_map, List.length_tail]; rfl
 have ok : ∀ l ∈ drawnOf nums f, l.length ≤ 3 ∧ ∀ c ∈ l, c ∈ lettersOf f := by
   intro l hl
   unfold drawnOf at hl
   rcases List.mem_append.mp hl with h | h
   · refine el_EA (List.mem_map.mp h) ?_; intro k _ zz1
     obtain rfl := zz1
     exact wordOf_ok h4 k
   · have one : ∀ i, i < 4 → ∀ c ∈ [(lettersOf f).getD i 0], c ∈ lettersOf f := by
       intro i hi c hc
       rw [List.mem_singleton.mp hc, List.getD_eq_getElem?_getD, List.getElem?_eq_getElem (by lia)]
       exact List.getElem_mem _
     rcases List.mem_cons.mp h with rfl | h
     · exact ⟨by simp, one 2 (by decide)⟩
     · rw [List.mem_singleton.mp h]
       exact ⟨by simp, one 0 (by decide)⟩
 exact ⟨by lia, by lia, fun l h => (ok l h).1, fun l h => (ok l h).2⟩
theorem table_step {hb g h h' : Heap} {env : Env} {n : Nat} {m : PySem.Str → Option Value} {N : List Addr} (F : Fz hb env n g h m) (k : KeepNot N h h') (hN : ∀ b : Nat, b ∈ N → b < hb.objs.size) (hs : h.objs.size ≤ h'.objs.size) :
   ∃ hb', hb'.objs.size = hb.objs.size ∧ KeepNot N hb hb' ∧ Fz hb' env n h' h' m ∧ (∀ b : Nat, b < hb.objs.size → hb'.get? b = h'.get? b) ∧ KeepOn (fun b => n ≤ b) h h' := by
 have ne : ∀ b : Nat, hb.objs.size ≤ b → b ∉ N := fun b h1 h2 => absurd (hN b h2) (Nat.not_lt.mpr h1)
 have hsz : hb.objs.size ≤ h'.objs.size := Nat.le_trans (Nat.le_trans (Nat.le_trans F.lo (Nat.le_of_lt F.hi)) F.top) hs
 refine ⟨_, trunc_size hsz, fun b o hb' e => ?_, F.ground hs (fun b o _ h1 e => k b o (ne b h1) e) (fun ml x => x.at' fun o e => k _ o (ne _ F.lo) e), fun b hlt => trunc_lt hlt, fun b o h1 e => k b o (ne b (Nat.le_trans (Nat.le_trans F.lo (Nat.le_of_lt F.hi)) h1)) e⟩
 rw [trunc_lt (Heap.lt_size e)]
 exact k b o hb' (F.base b o e)
noncomputable def Has {α : Type} (R : Rel α) (n : Nat) (h : Heap) (m : PySem.Str → Option Value) (x : String) (a : α) : Prop := ∃ v, m (Str.ofString x) = some v ∧ R.r (fun b => n ≤ b) h v a
theorem Has.on {α : Type} {R : Rel α} {n : Nat} {h h' : Heap} {m m' : PySem.Str → Option Value} {x : String} {a : α} (r : Has R n h m x a) (k : KeepOn (fun b => n ≤ b) h h') (e : m' (Str.ofString x) = m (Str.ofString x)) : Has R n h' m' x a :=
 let ⟨v, e1, e2⟩ := r; ⟨v, e.trans e1, R.up k e2⟩
theorem Fz.ko {hb g h : Heap} {env : Env} {n : Nat} {m : PySem.Str → Option Value} (F : Fz hb env n g h m) : KeepOn (fun b => n ≤ b) g h := fun b o hn e => F.keep b o (.inr hn) e
theorem Up.ko {s s' : Shared} (u : Up s s') (n : Nat) : KeepOn (fun b => n ≤ b) s.heap s'.heap := fun b o _ e => u.keep b o e
theorem CodeTab.cp {h h' : Heap} {c P : Addr} {ps : Array Value} (x : CodeTab h c P ps) (kc : ∀ o, h.get? c = some o → h'.get? c = some o) (kP : ∀ o, h.get? P = some o → h'.get? P = some o) : CodeTab h' c P ps := by
 refine el_AA x ?_; try clear x; intro zz0 zz1 g
 refine el_EEEEEEEEEEAAAAAAAAAA zz0 ?_; clear zz0; intro o vs file tf flags tg inF text tt op e1 e2 e3 e4 e5 e6 e7 e8 e9 e10 e11
 refine el_EEAAA zz1 ?_; clear zz1; intro o2 vs2 f1 f2 f3 f4
 exact ⟨⟨o, vs, file, tf, flags, tg, inF, text, tt, op, kc _ e1, e2, e3, e4, e5, e6, e7, kP _ e8, e9, e10, e11⟩, ⟨o2, vs2, kc _ f1, f2, f3, f4⟩, kP _ g⟩
theorem codeTab_lt {h : Heap} {c P : Addr} {ps : Array Value} (x : CodeTab h c P ps) : c < h.objs.size ∧ P < h.objs.size := by
 refine el_AA x ?_; try clear x; intro zz2 _ g
 refine el_EEEEEEEEEEA zz2 ?_; clear zz2; intro o vs file tf flags tg inF text tt op e1 _
 exact ⟨Heap.lt_size e1, Heap.lt_size g⟩
section
variable {prog : Program} {w : World} {A : Around} {E : Value → Shared → Prop} {s : Shared} {P : Adr} {T : Tb} {mg mb : PySem.Str → Option Value}
variable {L al : Addr} {hb g : Heap} {n : Nat} {m : PySem.Str → Option Value}
theorem seg3 {f : Int} {drawn : List (List Nat)} {vd : Value} {tf : Tok} {Q : Flow → Shared → Prop} (F : Fz hb (envW L al (.ref T.c37)) n s.heap s.heap m) (hW : ∀ h', KeepNot [T.P37] hb h' → Wx P T mg mb h') (tab : CodeTab hb T.c37 T.P37 #[]) (hh : A.handled = none) (hroom : A.depth + 20 < recursionLimit) (hu : A.units + 40 < cLine)
   (e2 : m (Str.ofString "first") = some (.int f tf)) (h3 : Has (RL RC) n s.heap m "letters" (lettersOf f)) (h4 : Has (RL (RL RC)) n s.heap m "orders" (ordersN 4 (lettersOf f))) (h5 : Has (RL RC) n s.heap m "hidden" (hiddenOf f))
   (rd : (RL RW).r (fun b => n ≤ b) s.heap vd drawn) (hrow : Row (lettersOf f) drawn)
   (h : ∀ s' m' hb' ps words, Fz hb' (envW L al (.ref T.c37)) n s'.heap s'.heap m' → Sm s s' → hb'.objs.size = hb.objs.size → KeepNot [T.P37] hb hb' → CodeTab hb' T.c37 T.P37 ps → codeAmong (lamQ key2E) ps.toList = none →
     Has (RL RC) n s'.heap m' "letters" (lettersOf f) → Has (RL (RL RC)) n s'.heap m' "orders" (ordersN 4 (lettersOf f)) → Has (RL RC) n s'.heap m' "hidden" (hiddenOf f) → Has (RL RW) n s'.heap m' "words" words → Row (lettersOf f) words →
     wpAny (model prog w) A (execs (bdW 7) (envW L al (.ref T.c37))) Q E s') :
   wpAny (model prog w) A (storeName (envW L al (.ref T.c37)) (Str.ofString "drawn") vd) (fun _ s'' => wpAny (model prog w) A (execs (bdW 6) (envW L al (.ref T.c37))) Q E s'') E s := by
 exists st_loc F (by trivial) (by trivial) (by trivial) fun s₁ F₁ hs₁ sm₁ => ?_
 have k₁ := F₁.ko
 have h3₁ := h3.on (m' := fun y => if y = Str.ofString "drawn" then some vd else m y) k₁ (by trivial)
 have h4₁ := h4.on (m' := fun y => if y = Str.ofString "drawn" then some vd else m y) k₁ (by trivial)
 have h5₁ := h5.on (m' := fun y => if y = Str.ofString "drawn" then some vd else m y) k₁ (by trivial)
 have e2₁ : (fun y => if y = Str.ofString "drawn" then some vd else m y) (Str.ofString "first") = some (.int f tf) := e2
 have ed₁ : (fun y => if y = Str.ofString "drawn" then some vd else m y) (Str.ofString "drawn") = some vd := upd_eq
 have rd₁ := (RL RW).up k₁ rd
 replace F₁ := F₁.here
 generalize (fun y => if y = Str.ofString "drawn" then some vd else m y) = m₁ at F₁ h3₁ h4₁ h5₁ e2₁ ed₁
 refine wpAny_execs_cons ?_
 exists wpAny_Assign_Name ?_ (by trivial)
 exists IfExp_ ?_
 exists wpAny_isTrue_Compare1 ?_ (by trivial)
 exists wpAny_BinOp ?_
 exists n_cell F₁ (by trivial) (by trivial) (by trivial) (by trivial) e2₁ ?_
 exists wpAny_Constant_int ?_
 exists PyProof.Rows.mod_int' (by decide) ?_
 exists wpAny_Constant_int ?_
 exists PyProof.Rows.eq_int ?_
 exists wpAny_truthy_bool ?_
 by_cases hodd : Int.fmod f 2 = 1
 · rw [if_pos (by simpa using hodd)]
   have X₀ := hW hb (fun b o _ e => e)
   have W₁ := X₀.w.keeps F₁.base
   exists Call_NameKw ?_
   exists n_bi W₁ (by trivial) (by trivial) (by trivial) (by trivial) (by trivial) (by decide) (X₀.w.no "sorted" (by decide)) PyProof.Rows.boot_sorted ?_
   exists cw_kw (by trivial) ?_
   exists n_loc F₁ (by trivial) (by trivial) (by trivial) ed₁ ?_
   have tab₁ := tab.keeps F₁.base
   refine el_EA h5₁ ?_; try clear h5₁; intro vh eh rh
   have X₁ := hW s₁.heap (fun b o _ e => F₁.base b o e)
   refine make_new (c := T.c37) (P := T.P37) (ps := #[]) (mg := mg) (params := lamP key1E) (body := lamB key1E) (scope := lamS key1E) (pos := lamQ key1E) (clos := [(Str.ofString "hidden", L + 4)]) (by trivial) ?_ rfl (by trivial) W₁.g (by trivial) tab₁ rfl (CodeTab.ne X₁ tab₁) (CodeTab.bAt X₁ tab₁) fun fk c' P' s₂ st₂ k₂ hz₂ hf₂ hLam hTn hP' hT' => ?_
   · with_unfolding_all rfl
   have hPlt : T.P37 < hb.objs.size := Heap.lt_size tab.2.2
   refine el_EAAAA (table_step F₁ k₂ (fun b hb => by rw [List.mem_singleton.mp hb]; exact hPlt) hz₂) ?_; intro hb' hsz' kb' F₂ hat ko₂
   have X₂ := hW hb' kb'
   have W₂ := X₂.w.keeps F₂.base
   have hc₂ := (F₂.cs (Str.ofString "hidden") (L + 4) (by trivial)).1
   rw [eh] at hc₂
   have hP := hidden_perm f
   refine sorted_key1 (va := vh) (alpha := hiddenOf f) (words := drawn) (by show A.depth + 10 < recursionLimit; omega) hh (by omega) W₂ hLam hc₂ (rl_all ((RL RC).up ko₂ rh)) (by rw [hP.length_eq, lettersOf_len]; decide) (fun l hl => Nat.le_trans (hrow.short l hl) (by decide)) (fun l hl c hc => hP.mem_iff.mpr (hrow.mem l hl c hc)) (rl_all ((RL RW).up ko₂ rd₁)) hrow.two hrow.seven fun vw s₃ res u₃ hr ho => ?_
   have F₃ := (F₂.pass u₃).here
   exists st_loc F₃ (by trivial) (by trivial) (by trivial) fun s₄ F₄ hs₄ sm₄ => ?_
   have k₄ : KeepOn (fun b => n ≤ b) s₁.heap s₄.heap := ko₂.trans ((u₃.ko n).trans F₄.ko)
   have tab' := hTn.cp (h' := hb') (fun o e => (hat _ (codeTab_lt tab).1).trans e) (fun o e => (hat _ hPlt).trans e)
   refine h s₄ _ hb' _ res F₄.here (sm₁.trans ⟨(sm₄.gens.trans u₃.st.gens).trans st₂.gens, (sm₄.drawn.trans u₃.st.drawn).trans st₂.drawn, (sm₄.os.trans u₃.st.os).trans st₂.os⟩) hsz' kb' tab' ?_ (h3₁.on k₄ (by trivial)) (h4₁.on k₄ (by trivial)) (Has.on ⟨vh, eh, rh⟩ k₄ (by trivial)) ⟨vw, upd_eq, (RL RW).up F₄.ko ((RL RW).mono (fun b hb => Nat.le_trans F₂.top hb) hr)⟩ (hrow.perm ho.1)
   · with_unfolding_all rfl
 · rw [if_neg (by simpa using hodd)]
   exists n_loc F₁ (by trivial) (by trivial) (by trivial) ed₁ ?_
   exists st_loc F₁ (by trivial) (by trivial) (by trivial) fun s₄ F₄ hs₄ sm₄ => ?_
   have k₄ : KeepOn (fun b => n ≤ b) s₁.heap s₄.heap := F₄.ko
   refine h s₄ _ hb #[] drawn F₄.here (sm₁.trans ⟨sm₄.gens, sm₄.drawn, sm₄.os⟩) rfl (fun b o _ e => e) tab rfl (h3₁.on k₄ (by trivial)) (h4₁.on k₄ (by trivial)) (h5₁.on k₄ (by trivial)) ⟨vd, upd_eq, (RL RW).up k₄ rd₁⟩ hrow
end
theorem byteArr_nat (l : List Nat) : byteArr (l.map fun c => ((c : Nat) : Int)) = List.toArray (l.map fun c => c.toUInt8) := by
 unfold byteArr
 simp [Function.comp_def]
theorem ring_small (c : Nat) (h : c ∈ ring) : c < 256 := by
 have : ∀ c ∈ ring, c < 256 := by decide
 exact this c h
theorem letters_ring (f : Int) : ∀ c ∈ lettersOf f, c ∈ ring := by
 intro c hc
 unfold lettersOf at hc
 refine el_EA (List.mem_map.mp hc) ?_; intro k _ zz0
 obtain rfl := zz0
 have hlo := fmod_lo (Int.fdiv f 2 + (k : Nat)) (n := 6) (by decide)
 have hhi := fmod_hi (Int.fdiv f 2 + (k : Nat)) (n := 6) (by decide)
 have hlt : seatOf f k < ring.length := by
   unfold seatOf
   show _ < 6
   lia
 rw [List.getD_eq_getElem?_getD, List.getElem?_eq_getElem hlt]
 exact List.getElem_mem hlt
section
variable {prog : Program} {w : World} {A : Around} {E : Value → Shared → Prop} {s : Shared} {P : Adr} {T : Tb} {mg mb : PySem.Str → Option Value}
variable {L al : Addr} {cd : Value} {hb g : Heap} {n : Nat} {m : PySem.Str → Option Value}
theorem seg4 {f : Int} {words : List (List Nat)} {Q : Flow → Shared → Prop} (F : Fz hb (envW L al cd) n s.heap s.heap m) (X : Wx P T mg mb hb) (hh : A.handled = none) (hroom : A.depth + 20 < recursionLimit) (hu : A.units + 40 < cLine)
   (h6 : Has (RL RW) n s.heap m "words" words) (hrow : Row (lettersOf f) words)
   (h : ∀ s' v, Fz hb (envW L al cd) n s'.heap s'.heap (fun y => if y = Str.ofString "marked" then some v else m y) → Sm s s' → KeepOn (fun b => n ≤ b) s.heap s'.heap → (RL RW).r (fun b => n ≤ b) s'.heap v (words.map writtenOf) →
     wpAny (model prog w) A (execs (bdW 8) (envW L al cd)) Q E s') :
   wpAny (model prog w) A (execs (bdW 7) (envW L al cd)) Q E s := by
 have hring := letters_ring f
 refine el_EA h6 ?_; try clear h6; intro vw ew rw_
 refine wpAny_execs_cons ?_
 exists Assign_ListComp_M (β := List Nat) (RR := RL RW) (zs := words.map writtenOf) (by trivial) (by trivial) (by decide) (by trivial) (by decide) (by trivial) (fun _ => (by trivial)) (by trivial) (by trivial) (by trivial) F ?_ ?_
 · exists n_loc F (by trivial) (by trivial) (by trivial) ew ?_
   exists ⟨Up.refl _, ?_⟩
   exists comp_listK (R := RW) (R' := RW) (f := writtenOf) hh (rl_all rw_) (by rw [sizeLine_eq]; have := hrow.seven; lia) ?_ ?_
   · intro i v l C s₁ m₁ E' hi hRv u₁ hC hn hx
     refine el_E hRv ?_; try clear hRv; intro tl zz1
     obtain rfl := zz1
     have hlm := List.mem_of_getElem? hi
     have hsh := hrow.short l hlm
     have hmem := hrow.mem l hlm
     have W₁ := (X.w.keeps F.base).up u₁
     exists wpAny_Call_NameR ?_
     exists n_gl W₁ (by trivial) (by trivial) (by trivial) (by trivial) W₁.ghenc ?_
     exists cw_def (by trivial) ?_
     exists sp_more (by trivial) ?_
     exists wpAny_Call_NameR ?_
     exists n_bi W₁ (by trivial) (by trivial) (by trivial) (by trivial) (by trivial) (by decide) (W₁.no "bytes" (by decide)) PyProof.Rows.boot_bytes ?_
     exists cw_type (by trivial) ?_
     exists sp_more (by trivial) ?_
     exists ListComp_M (β := Int) (by trivial) (by decide) (by trivial) (by decide) (by trivial) (fun _ => (by trivial)) ?_
     exists c_loc hn (by trivial) (by trivial) (by trivial) hx ?_
     exists comp_str (R' := RI) (f := fun c => ((c : Nat) : Int)) hh (by rw [sizeLine_eq]; lia) ?_ ?_
     · intro j c tc C2 s₂ m₂ E'' hj u₂ hC2 hn2 hx2
       have W₂ := W₁.up u₂
       exists wpAny_Call_NameR ?_
       exists n_bi W₂ (by trivial) (by trivial) (by trivial) (by trivial) (by trivial) (by decide) (W₂.no "ord" (by decide)) PyProof.Rows.boot_ord ?_
       exists cw_bi (by trivial) ?_
       exists sp_more (by trivial) ?_
       exists c_loc hn2 (by trivial) (by trivial) (by trivial) hx2 ?_
       exists spliced_none ?_
       exists ordW fun t3 s₃ u₃ => ?_
       exact ⟨u₃, t3, rfl⟩
     · intro vi s₂ u₂ hvi
       refine el_EEAAA hvi ?_; try clear hvi; intro ai vis zz2 _ hpli hpi
       obtain rfl := zz2
       have hil := Paired.length hpi
       rw [List.length_map] at hil
       exists spliced_none ?_
       refine call_bytes_ints hpli.isList (Paired.toInts hpi) (fun k hk => ?_) (by rw [sizeLine_eq]; lia) hh fun h' t k hk => ?_
       · refine el_EA (List.mem_map.mp hk) ?_; intro c hc zz3
         obtain rfl := zz3
         have := ring_small c (hring c (hmem c hc))
         lia
       · have W₂ := (W₁.up u₂).keeps hk
         have k₂ : Keep hb s₂.heap := (F.base.trans u₁.keep).trans u₂.keep
         have X₂ := (X.dhenc.keeps k₂).keeps hk
         have M₂ := (X.hmap.keeps k₂).keeps hk
         exists sp_more (by trivial) ?_
         exists wpAny_Constant_str ?_
         exists spliced_none ?_
         rw [byteArr_nat]
         exists ⟨X₂.fn, ?_⟩
         exists call_ret (c_hencode (s := { s₂ with heap := h', toks := k + 1 }) (by lia) hh W₂ X₂ M₂ (fun c hc => hring c (hmem c hc)) hsh) fun v' s₃ u₃ hv' => ?_
         exact ⟨⟨⟨u₃.st.gens.trans u₂.st.gens, u₃.st.drawn.trans u₂.st.drawn, u₃.st.os.trans u₂.st.os⟩, fun b o e => u₃.keep _ o (hk _ o (u₂.keep _ o e))⟩, hv'⟩
   · intro v' s' us hr
     exact ⟨us, hr⟩
 · intro vm s₁ F₁ sm₁ hz₁ k₁ hvm
   have ko₁ : KeepOn (fun b => n ≤ b) s.heap s₁.heap := fun b o hn e => k₁ b o (fun q => by
     rw [List.mem_singleton.mp q] at hn
     exact absurd F.hi (Nat.not_lt.mpr hn)) e
   exact h s₁ vm F₁ sm₁ ko₁ ((RL RW).mono (fun b hb => Nat.le_trans F.top hb) hvm)
end
noncomputable def RWr : Rel (List Nat) where
 r := fun _ _ v l => ∃ t, v = .str (sW (writtenOf l)) t
 up := fun _ x => x
 mono := fun _ x => x
 adr := fun ⟨_, e⟩ q => by rw [e] at q; cases q
theorem paired_written {h : Heap} {ok : Addr → Prop} {vs : List Value} {words : List (List Nat)} (p : Paired (RW.r ok h) vs (words.map writtenOf)) : Paired (RWr.r ok h) vs words := by
 induction words generalizing vs with
 | nil => cases p; exact .nil
 | cons w words ih => cases p with
   | cons e r => exact .cons e (ih r)
section
variable {prog : Program} {w : World} {A : Around} {E : Value → Shared → Prop} {s : Shared} {P : Adr} {T : Tb} {mg mb : PySem.Str → Option Value}
variable {L al : Addr} {cd : Value} {hb g : Heap} {n : Nat} {m : PySem.Str → Option Value}
theorem seg5 {f : Int} {words : List (List Nat)} {Q : Flow → Shared → Prop} (F : Fz hb (envW L al cd) n s.heap s.heap m) (X : Wx P T mg mb hb) (hh : A.handled = none) (hroom : A.depth + 20 < recursionLimit) (hu : A.units + 40 < cLine)
   (h6 : Has (RL RW) n s.heap m "words" words) (hrow : Row (lettersOf f) words) (h7 : Has (RL RW) n s.heap m "marked" (words.map writtenOf))
   (h : ∀ s' v, Fz hb (envW L al cd) n s'.heap s'.heap (fun y => if y = Str.ofString "readings" then some v else m y) → Sm s s' → KeepOn (fun b => n ≤ b) s.heap s'.heap → (RL RW).r (fun b => n ≤ b) s'.heap v words →
     wpAny (model prog w) A (execs (bdW 11) (envW L al cd)) Q E s') :
   wpAny (model prog w) A (execs (bdW 8) (envW L al cd)) Q E s := by
 have hring := letters_ring f
 have hseven := hrow.seven
 refine el_EA h6 ?_; try clear h6; intro vw ew rw_
 refine el_EA h7 ?_; try clear h7; intro vm em rm
 refine wpAny_execs_cons ?_
 exists If_f ?_
 exists wpAny_isTrue_Compare1 ?_ (by trivial)
 exists n_loc F (by trivial) (by trivial) (by trivial) em ?_
 exists ListComp_M (β := List Nat) (by trivial) (by decide) (by trivial) (by decide) (by trivial) (fun _ => (by trivial)) ?_
 exists n_loc F (by trivial) (by trivial) (by trivial) ew ?_
 exists comp_list (R := RW) (R' := RW) (f := writtenOf) hh (rl_all rw_) (by rw [sizeLine_eq]; lia) ?_ ?_
 · intro i v l C s₁ m₁ E' hi hRv u₁ hC hn hx
   refine el_E hRv ?_; try clear hRv; intro tl zz0
   obtain rfl := zz0
   have hlm := List.mem_of_getElem? hi
   have hsh := hrow.short l hlm
   have hmem := hrow.mem l hlm
   have W₁ := (X.w.keeps F.base).up u₁
   exists wpAny_Call_NameR ?_
   exists n_gl W₁ (by trivial) (by trivial) (by trivial) (by trivial) W₁.gwritten ?_
   exists cw_def (by trivial) ?_
   exists sp_more (by trivial) ?_
   exists c_loc hn (by trivial) (by trivial) (by trivial) hx ?_
   exists spliced_none ?_
   exists ⟨W₁.dwritten.fn, ?_⟩
   exists call_ret (c_written (by lia) hh W₁ (fun c hc => hring c (hmem c hc)) (by lia)) fun v' s₂ u₂ hv' => ?_
   exact ⟨u₂, hv'⟩
 · intro v2 s₁ u₁ hv2
   refine neL EqR.word ((RL RW).up u₁.keep.on (rl_all rm)) (rl_all hv2) (by lia) ?_
   exists wpAny_truthy_bool ?_
   refine ⟨rfl, ?_⟩
   refine wpAny_execs_nil ?_
   have F₁ := (F.pass u₁).here
   have rm₁ := (RL RW).up u₁.keep.on rm
   have rw₁ := (RL RW).up u₁.keep.on rw_
   refine wpAny_execs_cons ?_
   exists Assign_ListComp_M (β := List Nat) (RR := RL RW) (zs := words) (by trivial) (by trivial) (by decide) (by trivial) (by decide) (by trivial) (fun _ => (by trivial)) (by trivial) (by trivial) (by trivial) F₁ ?_ ?_
   · exists n_loc F₁ (by trivial) (by trivial) (by trivial) em ?_
     exists ⟨Up.refl _, ?_⟩
     refine el_EEAAA rm₁ ?_; try clear rm₁; intro am vms zz1 ham hplm hpm
     obtain rfl := zz1
     have hm' : (RL RWr).r All s₁.heap (.ref am) words := ⟨am, vms, rfl, trivial, hplm, Paired.imp (fun _ _ q => q) (paired_written hpm)⟩
     refine el_EA (X.pat) ?_; intro pat hg hpat
     exists comp_list (R := RWr) (R' := RW) (f := fun l => l) hh hm' (by rw [sizeLine_eq]; lia) ?_ ?_
     · intro i v l C s₂ m₂ E' hi hRv u₂ hC hn hx
       refine el_E hRv ?_; try clear hRv; intro tl zz2
       obtain rfl := zz2
       have hlm := List.mem_of_getElem? hi
       have hsh := hrow.short l hlm
       have hup := wordsUpTo_mem 3 l hsh (fun c hc => hring c (hrow.mem l hlm c hc))
       have k₂ : Keep hb s₂.heap := F₁.base.trans u₂.keep
       have W₂ := X.w.keeps k₂
       exists wpAny_Call_NameR ?_
       exists n_gl W₂ (by trivial) (by trivial) (by trivial) (by trivial) W₂.ghdec ?_
       exists cw_def (by trivial) ?_
       exists sp_more (by trivial) ?_
       exists cutS (fun _ _ => (by trivial)) ?_
       exists c_loc hn (by trivial) (by trivial) (by trivial) hx ?_
       exists evalPart_some_step ?_
       exists wpAny_Constant_int ?_
       exists evalPart_some_step ?_
       exists wpAny_UnaryOp ?_
       exists wpAny_Constant_int ?_
       exists PyProof.Rows.neg_int ?_
       have hsl := signs_len l
       refine ⟨_, l.flatMap signOf, _, _, _, _, _, rfl, rfl, rfl, cut_all l hup, by lia, fun t' s₃ u₃ => ?_⟩
       have u₃' : Up s₂ s₃ := ⟨⟨u₃.st.gens, u₃.st.drawn, u₃.st.os⟩, u₃.keep, u₃.size⟩
       have k₃ : Keep hb s₃.heap := k₂.trans u₃'.keep
       have W₃ := X.w.keeps k₃
       exists spliced_none ?_
       exists ⟨W₃.dhdec.fn, ?_⟩
       refine el_EA (X.fn) ?_; intro ofn hfn hfc
       have hty : s₃.TypeIs (.ref P.unqm) "function" := ⟨ofn, k₃ _ _ hfn, hfc⟩
       exists call_ret (c_hdecode (by lia) W₃ hg (hpat.keeps k₃) hty hup hsh) fun v' s₄ u₄ hv' => ?_
       exact ⟨u₃'.trans u₄, (RW).mono (fun b hb => Nat.le_trans u₃'.size hb) hv'⟩
     · intro v' s' us hr
       rw [List.map_id'] at hr
       exact ⟨us, hr⟩
   · intro vr s₂ F₂ sm₂ hz₂ k₂ hvr
     have ko₂ : KeepOn (fun b => n ≤ b) s₁.heap s₂.heap := fun b o hn e => k₂ b o (fun q => by
       rw [List.mem_singleton.mp q] at hn
       exact absurd F₁.hi (Nat.not_lt.mpr hn)) e
     have rw₂ := (RL RW).up ko₂ rw₁
     have hvr' : (RL RW).r (fun b => n ≤ b) s₂.heap vr words := (RL RW).mono (fun b hb => Nat.le_trans F₁.top hb) hvr
     refine wpAny_execs_cons ?_
     exists If_f ?_
     exists wpAny_isTrue_Compare1 ?_ (by trivial)
     exists n_loc F₂ (by trivial) (by trivial) (by trivial) upd_eq ?_
     exists n_loc F₂ (by trivial) (by trivial) (by trivial) (v := vw) ?_ ?_
     · exact ew
     refine neL EqR.word (rl_all hvr') (rl_all rw₂) (by lia) ?_
     exists wpAny_truthy_bool ?_
     refine ⟨rfl, ?_⟩
     refine wpAny_execs_nil ?_
     exact h s₂ vr F₂ (u₁.st.trans sm₂) ((u₁.ko n).trans ko₂) hvr'
end
theorem Low.top {env : Env} {n : Nat} {h : Heap} (low : Low env n) (hl : env.locals < h.objs.size) (hc : ∀ x a, env.cells.lookup x = some a → a < h.objs.size) : n ≤ h.objs.size := by
 obtain ⟨b, rfl, rfl | ⟨x, hx⟩⟩ := low
 · exact hl
 · exact hc x b hx
theorem Fz.frame_step {hb g h h' : Heap} {env : Env} {n : Nat} {m : PySem.Str → Option Value} (F : Fz hb env n g h m) (low : Low env n) (k : KeepNot [env.locals] h h') (sl : ∀ o, h.get? env.locals = some o → ∃ sl, h'.get? env.locals = some { o with slots := sl }) :
   Fz hb env n h' h' m ∧ KeepOn (fun b => n ≤ b) h h' := by
 have hne : ∀ b : Nat, b ≠ env.locals → b ∉ [env.locals] := fun b h q => h (List.mem_singleton.mp q)
 refine el_EA (F.ns) ?_; intro ml hns hml
 have hns' := ns_slots hns sl
 have cs' : ∀ x a, env.cells.lookup x = some a → h'.IsCell a (m x) ∧ env.locals < a ∧ a < n := fun x a e => by
   refine el_AA (F.cs x a e) ?_; intro zz0 c1 c2
   refine el_EA zz0 ?_; clear zz0; intro oc e1 e2
   exact ⟨⟨oc, k _ _ (hne _ (Nat.ne_of_gt c1)) e1, e2⟩, c1, c2⟩
 refine ⟨⟨fun b o e => k b o (hne _ (Nat.ne_of_lt (Nat.lt_of_lt_of_le (Heap.lt_size e) F.lo))) (F.base b o e), F.lo, F.hi, ?_, ⟨ml, hns', hml⟩, cs', F.apart, KeepOn.refl _ _⟩, fun b o hn e => k b o (hne _ (Nat.ne_of_gt (Nat.lt_of_lt_of_le F.hi hn))) e⟩
 exact low.top hns'.lt fun x a e => by
   refine el_EA ((cs' x a e).1) ?_; intro oc e1 _
   exact Heap.lt_size e1
theorem frames_one {h : Heap} {hb g : Heap} {L al : Addr} {cd : Value} {n : Nat} {m : PySem.Str → Option Value} (F : Fz hb (envW L al cd) n g h m) : h.FunFrames {} [envW L al cd] := by
 refine el_EA (F.ns) ?_; intro ml zz1 _
 refine el_EEEAA zz1 ?_; clear zz1; intro oL es ep eL dL _
 exact ⟨fun q => (by have q' : ScopeKind.function = ScopeKind.module := q; cases q'), ⟨L, oL, rfl, rfl, eL, fun vs q => by rw [dL] at q; cases q⟩, trivial⟩
noncomputable def alphaOf (f : Int) (words : List (List Nat)) : List Nat := (firstOf (ordersN 4 (lettersOf f)) words).getD (hiddenOf f)
theorem alpha_perm (f : Int) (words : List (List Nat)) : (alphaOf f words).Perm (lettersOf f) := by
 unfold alphaOf
 cases h : firstOf (ordersN 4 (lettersOf f)) words with
 | none => rw [Option.getD_none]; exact hidden_perm f
 | some o =>
   unfold firstOf at h
   rw [Option.getD_some]
   exact (ordersN_perm 4 (lettersOf f) _ (lettersOf_len f)).mp (List.mem_of_find?_eq_some h)
section
variable {prog : Program} {w : World} {A : Around} {E : Value → Shared → Prop} {s : Shared} {P : Adr} {T : Tb} {mg mb : PySem.Str → Option Value}
variable {L al : Addr} {cd : Value} {hb g : Heap} {n : Nat} {m : PySem.Str → Option Value}
theorem seg6 {f : Int} {words : List (List Nat)} {Q : Flow → Shared → Prop} (F : Fz hb (envW L al cd) n s.heap s.heap m) (low : Low (envW L al cd) n) (X : Wx P T mg mb hb) (hh : A.handled = none) (hroom : A.depth + 20 < recursionLimit) (hu : A.units + 40 < cLine) (hfr : A.frames = some [envW L al cd])
   (hnd : (lettersOf f).Nodup) (h3 : Has (RL RC) n s.heap m "letters" (lettersOf f)) (h4 : Has (RL (RL RC)) n s.heap m "orders" (ordersN 4 (lettersOf f))) (h5 : Has (RL RC) n s.heap m "hidden" (hiddenOf f)) (h6 : Has (RL RW) n s.heap m "words" words) (h8 : Has (RL RW) n s.heap m "readings" words) (hrow : Row (lettersOf f) words)
   (h : ∀ s' m', Fz hb (envW L al cd) n s'.heap s'.heap m' → Sm s s' → Has (RL RC) n s'.heap m' "alphabet" (alphaOf f words) → Has (RL RW) n s'.heap m' "words" words → Has (RL RW) n s'.heap m' "readings" words →
     wpAny (model prog w) A (execs (bdW 14) (envW L al cd)) Q E s') :
   wpAny (model prog w) A (execs (bdW 11) (envW L al cd)) Q E s := by
 have h7 := hrow.seven
 have h2 := hrow.two
 have hlen := lettersOf_len f
 have W₀ := X.w.keeps F.base
 have hmf := merge_first (letters := lettersOf f) (words := words) hlen hnd hrow.mem
 refine el_EA h3 ?_; try clear h3; intro vl el rl
 refine el_EA h4 ?_; try clear h4; intro vo eo ro
 refine el_EA h5 ?_; try clear h5; intro vh eh rh
 refine el_EA h6 ?_; try clear h6; intro vw ew rw_
 refine el_EA h8 ?_; try clear h8; intro vr er rr
 have hnl : ∀ b ∈ frs [envW L al cd], hb.get? b = none := fun b hb' => by
   have : b = L := List.mem_singleton.mp (show b ∈ [L] from hb')
   subst this
   cases q : hb.get? b with
   | none => rfl
   | some o => exact absurd (Heap.lt_size q) (Nat.not_lt.mpr F.lo)
 refine wpAny_execs_cons ?_
 exists wpAny_Assign_Name ?_ (by trivial)
 exists wpAny_Call_NameR ?_
 exists n_gl W₀ (by trivial) (by trivial) (by trivial) (by trivial) W₀.gmerged ?_
 exists cw_def (by trivial) ?_
 exists sp_more (by trivial) ?_
 exists n_cell F (by trivial) (by trivial) (by trivial) (by trivial) el ?_
 exists sp_more (by trivial) ?_
 exists n_loc F (by trivial) (by trivial) (by trivial) er ?_
 exists spliced_none ?_
 exists ⟨W₀.dmerged.fn, ?_⟩
 refine wpAny_call (codeAny_mono (c_merged (outer := [envW L al cd]) (by lia) hh (by lia) X.w F.base (Nat.le_trans F.lo (Nat.le_trans (Nat.le_of_lt F.hi) F.top)) hnl (rl_all rl) (rl_all rr) hlen (by lia) (by lia) (fun l hl => Nat.le_trans (hrow.short l hl) (by decide)) hfr (frames_one F)) fun r s₁ H => ?_)
 refine el_EAAAA H ?_; try clear H; intro v zz2 sm₁ k₁ sl₁ hv
 obtain rfl := zz2
 refine el_A (F.frame_step low k₁ (fun o e => sl₁ _ (.head _) o e)) ?_; intro F₁ ko₁
 rw [hmf] at hv
 have rl₁ := (RL RC).up ko₁ rl
 have ro₁ := (RL (RL RC)).up ko₁ ro
 have rh₁ := (RL RC).up ko₁ rh
 have rw₁ := (RL RW).up ko₁ rw_
 have rr₁ := (RL RW).up ko₁ rr
 have hoz : ∀ o ∈ ordersN 4 (lettersOf f), o.length ≤ 100 := fun o ho => by rw [ordersN_len 4 _ hlen o ho]; decide
 have hin : ∀ o ∈ ordersN 4 (lettersOf f), ∀ l ∈ words, ∀ c ∈ l, c ∈ o := fun o ho l hl c hc => ((ordersN_perm 4 (lettersOf f) o hlen).mp ho).mem_iff.mpr (hrow.mem l hl c hc)
 have hwz : ∀ l ∈ words, l.length ≤ 10 := fun l hl => Nat.le_trans (hrow.short l hl) (by decide)
 have hal : alphaOf f words = (firstOf (ordersN 4 (lettersOf f)) words).getD (hiddenOf f) := rfl
 clear rl ro rh rw_ rr hnl hmf
 have hsn : n ≤ s.heap.objs.size := F.top
 clear F W₀
 exists st_loc F₁ (by trivial) (by trivial) (by trivial) fun s₂ F₂ hs₂ sm₂ => ?_
 have ko₂ := F₂.ko
 have W₂ := X.w.keeps F₂.base
 have ro₂ := (RL (RL RC)).up ko₂ ro₁
 have rh₂ := (RL RC).up ko₂ rh₁
 have rw₂ := (RL RW).up ko₂ rw₁
 have rr₂ := (RL RW).up ko₂ rr₁
 replace F₂ := F₂.here
 refine wpAny_execs_cons ?_
 exists If_f ?_
 exists wpAny_isTrue_Compare1 ?_ (by trivial)
 exists n_loc F₂ (by trivial) (by trivial) (by trivial) upd_eq ?_
 exists wpAny_Call_NameR ?_
 exists n_gl W₂ (by trivial) (by trivial) (by trivial) (by trivial) W₂.gfirst ?_
 exists cw_def (by trivial) ?_
 exists sp_more (by trivial) ?_
 exists n_loc F₂ (by trivial) (by trivial) (by trivial) (v := vo) ?_ ?_
 · exact upd_ne (by decide) eo
 exists sp_more (by trivial) ?_
 exists n_loc F₂ (by trivial) (by trivial) (by trivial) (v := vw) ?_ ?_
 · exact upd_ne (by decide) ew
 exists spliced_none ?_
 exists ⟨W₂.dfirst.fn, ?_⟩
 exists call_ret (c_first (by lia) hh (by lia) W₂ (rl_all ro₂) (rl_all rw₂) hoz h2 h7 hwz hin) fun vf s₃ u₃ hvf => ?_
 unfold FirstR at hvf
 have F₃ := (F₂.pass u₃).here
 have rh₃ := (RL RC).up u₃.keep.on rh₂
 have rw₃ := (RL RW).up u₃.keep.on rw₂
 have rr₃ := (RL RW).up u₃.keep.on rr₂
 have sm₃ : Sm s s₃ := sm₁.trans (sm₂.trans u₃.st)
 cases hfo : firstOf (ordersN 4 (lettersOf f)) words with
 | some o =>
   rw [hfo] at hv hvf hal
   have rv₁ : (RL RC).r (fun b => n ≤ b) s₁.heap v o := (RL RC).mono (fun b hb => Nat.le_trans hsn hb) hv
   have rv₃ := (RL RC).up u₃.keep.on ((RL RC).up ko₂ rv₁)
   refine neL EqR.sign (rl_all rv₃) hvf (by lia) ?_
   exists wpAny_truthy_bool ?_
   refine ⟨rfl, ?_⟩
   refine wpAny_execs_nil ?_
   refine wpAny_execs_cons ?_
   exists wpAny_Assign_Name ?_ (by trivial)
   exists IfExp_ ?_
   exists wpAny_isTrue_Compare1 ?_ (by trivial)
   exists n_loc F₃ (by trivial) (by trivial) (by trivial) upd_eq ?_
   exists wpAny_Constant_str ?_
   refine el_EEAAA rv₃ ?_; try clear rv₃; intro av vvs zz3 hav hplv hpv
   obtain rfl := zz3
   refine PySem.SeqAt.RcAt.list_str (s := { s₃ with toks := s₃.toks + 1 }) _ _ hplv.isList (by lia) prog w E _ ?_
   exists wpAny_truthy_bool ?_
   rw [if_neg (by decide)]
   have u₄ : Up s₃ { s₃ with toks := s₃.toks + 1 } := Up.toks _
   exists n_loc (F₃.pass u₄) (by trivial) (by trivial) (by trivial) upd_eq ?_
   exists st_cell (F₃.pass u₄) (by trivial) (by trivial) (by trivial) fun s₄ F₄ hs₄ sm₄ => ?_
   have ko₄ := F₄.ko
   refine h s₄ _ F₄.here (sm₃.trans ⟨sm₄.gens, sm₄.drawn, sm₄.os⟩) ⟨.ref av, upd_eq, ?_⟩ ⟨vw, ew, (RL RW).up ko₄ rw₃⟩ ⟨vr, er, (RL RW).up ko₄ rr₃⟩
   rw [hal, Option.getD_some]
   exact (RL RC).up ko₄ ⟨av, vvs, rfl, hav, hplv, hpv⟩
 | none =>
   rw [hfo] at hv hvf hal
   refine el_E hv ?_; try clear hv; intro t1 zz4
   obtain rfl := zz4
   refine el_E hvf ?_; try clear hvf; intro t2 zz5
   obtain rfl := zz5
   refine PySem.P.ne_str ?_
   exists wpAny_truthy_bool ?_
   refine ⟨by simp, ?_⟩
   refine wpAny_execs_nil ?_
   refine wpAny_execs_cons ?_
   exists wpAny_Assign_Name ?_ (by trivial)
   exists IfExp_ ?_
   exists wpAny_isTrue_Compare1 ?_ (by trivial)
   exists n_loc F₃ (by trivial) (by trivial) (by trivial) upd_eq ?_
   exists wpAny_Constant_str ?_
   refine PySem.P.eq_str ?_
   exists wpAny_truthy_bool ?_
   have u₄ : Up s₃ { s₃ with toks := s₃.toks + 1 } := Up.toks _
   rw [if_pos (by trivial)]
   exists n_cell (F₃.pass u₄) (by trivial) (by trivial) (by trivial) (by trivial) (v := vh) ?_ ?_
   · exact upd_ne (by decide) eh
   exists st_cell (F₃.pass u₄) (by trivial) (by trivial) (by trivial) fun s₄ F₄ hs₄ sm₄ => ?_
   have ko₄ := F₄.ko
   refine h s₄ _ F₄.here (sm₃.trans ⟨sm₄.gens, sm₄.drawn, sm₄.os⟩) ⟨vh, upd_eq, ?_⟩ ⟨vw, ew, (RL RW).up ko₄ rw₃⟩ ⟨vr, er, (RL RW).up ko₄ rr₃⟩
   rw [hal, Option.getD_none]
   exact (RL RC).up ko₄ rh₃
end
theorem DefC.keeps {h h' : Heap} {a : Addr} {st : Stmt} {cd : Value} (x : DefC h a st cd) (k : Keep h h') : DefC h' a st cd :=
 el_EEEAA x fun o pm doc e hd hc => ⟨o, pm, doc, k _ _ e, hd, hc.keeps k⟩
theorem NoThird.keeps {h h' : Heap} (x : NoThird h) (k : Keep h h') : NoThird h' := el_EA x fun ms a b => ⟨ms, a.keeps k, b⟩
theorem CodeTab.apart {h : Heap} {c P c' P' : Addr} {ps ps' : Array Value} (x : CodeTab h c P ps) (y : CodeTab h c' P' ps') : c' ≠ P := fun q => by
 refine el_AA y ?_; try clear y; intro _ zz0 _
 refine el_EEAAA zz0 ?_; clear zz0; intro o vs f1 f2 f3 f4
 rw [q, x.2.2] at f1
 cases f1; cases f2
theorem TabF.but {h h' : Heap} {c P c' P' : Addr} {ps : Array Value} {q : PySem.Str} (x : TabF c' P' q h) (Z : CodeTab h c P ps) (k : KeepNot [P] h h') (hP : P' ≠ P) : TabF c' P' q h' := by
 refine el_EA x ?_; try clear x; intro ps' T r
 refine ⟨ps', T.on k (fun q => Z.apart T (List.mem_singleton.mp q)) (fun q => hP (List.mem_singleton.mp q)), ?_⟩
 rcases r with r | ⟨cv, r1, r2⟩
 · exact .inl r
 · exact .inr ⟨cv, r1, codeRecN r2 Z k⟩
theorem places_inj {alpha : List Nat} : ∀ {a b : List Nat}, (∀ c ∈ a, c ∈ alpha) → places alpha a = places alpha b → a = b
 | [], [], _, _ => rfl
 | [], _ :: _, _, h => by cases h
 | _ :: _, [], _, h => by cases h
 | x :: a, y :: b, hm, h => by
   have h1 := List.cons.inj (show ((alpha.idxOf x : Nat) : Int) :: places alpha a = ((alpha.idxOf y : Nat) : Int) :: places alpha b from h)
   rw [idx_inj (hm x (.head _)) (Int.ofNat.inj h1.1), places_inj (fun c hc => hm c (.tail _ hc)) h1.2]
theorem map_inj {alpha : List Nat} : ∀ {u v : List (List Nat)}, (∀ l ∈ u, ∀ c ∈ l, c ∈ alpha) → u.map (places alpha) = v.map (places alpha) → u = v
 | [], [], _, _ => rfl
 | [], _ :: _, _, h => by cases h
 | _ :: _, [], _, h => by cases h
 | x :: a, y :: b, hm, h => by
   have h1 := List.cons.inj (show places alpha x :: a.map (places alpha) = places alpha y :: b.map (places alpha) from h)
   rw [places_inj (hm x (.head _)) h1.1, map_inj (fun l hl => hm l (.tail _ hl)) h1.2]
theorem inOrder_one {alpha : List Nat} {words u v : List (List Nat)} (hm : ∀ l ∈ words, ∀ c ∈ l, c ∈ alpha) (hu : InOrder alpha words.reverse u) (hv : InOrder alpha words v) : u = v := by
 have p : u.Perm v := (hu.1.trans (List.reverse_perm _)).trans hv.1.symm
 refine map_inj (alpha := alpha) (fun l hl => hm l ((hu.1.trans (List.reverse_perm _)).mem_iff.mp hl)) ?_
 exact sorted_unique (p.map _) hu.2 hv.2
theorem rc_at {n P' : Nat} {h : Heap} {v : Value} {xs : List Nat} (hP : h.objs.size ≤ P') (r : (RL RC).r (fun b => n ≤ b) h v xs) : (RL RC).r (fun b => n ≤ b ∧ b ≠ P') h v xs := by
 refine el_EEAAA r ?_; try clear r; intro a vs zz1 ha hpl hp
 obtain rfl := zz1
 have : a < h.objs.size := by obtain ⟨_, e⟩ := hpl; exact Heap.lt_size e
 exact ⟨a, vs, rfl, ⟨ha, fun q => by rw [q] at this; exact absurd this (Nat.not_lt.mpr hP)⟩, hpl, Paired.imp (fun _ _ q => q) hp⟩
theorem rw_at {n P' : Nat} {h : Heap} {v : Value} {xs : List (List Nat)} (hP : h.objs.size ≤ P') (r : (RL RW).r (fun b => n ≤ b) h v xs) : (RL RW).r (fun b => n ≤ b ∧ b ≠ P') h v xs := by
 refine el_EEAAA r ?_; try clear r; intro a vs zz2 ha hpl hp
 obtain rfl := zz2
 have : a < h.objs.size := by obtain ⟨_, e⟩ := hpl; exact Heap.lt_size e
 exact ⟨a, vs, rfl, ⟨ha, fun q => by rw [q] at this; exact absurd this (Nat.not_lt.mpr hP)⟩, hpl, Paired.imp (fun _ _ q => q) hp⟩
theorem KeepNot.sub {N N' : List Addr} {h h' : Heap} (k : KeepNot N h h') (hs : ∀ b ∈ N, b ∈ N') : KeepNot N' h h' := fun b o hb e => k b o (fun q => hb (hs b q)) e
theorem KeepNot.then {N : List Addr} {a b c : Heap} (x : KeepNot N a b) (y : KeepNot N b c) : KeepNot N a c := fun p o hp e => y p o hp (x p o hp e)
theorem paired_rev {α : Type} {F : Value → α → Prop} {vs : List Value} {xs : List α} (p : Paired F vs xs) : Paired F vs.reverse xs.reverse := by
 induction p with
 | nil => exact .nil
 | cons h _ ih =>
   rw [List.reverse_cons, List.reverse_cons]
   exact Paired.append ih (.cons h .nil)
section
variable {prog : Program} {w : World} {A : Around} {E : Value → Shared → Prop} {s : Shared} {P : Adr} {T : Tb} {mg mb : PySem.Str → Option Value}
variable {L al : Addr} {hb g : Heap} {n : Nat} {m : PySem.Str → Option Value}
theorem seg7 {f : Int} {words : List (List Nat)} {ps : Array Value} {Q : Flow → Shared → Prop} (F : Fz hb (envW L al (.ref T.c37)) n s.heap s.heap m) (low : Low (envW L al (.ref T.c37)) n) (hW : ∀ h', KeepNot T.ps hb h' → Wx P T mg mb h') (ok : T.Ok)
   (t2 : CodeTab hb T.c2 T.P2 #[]) (t36 : CodeTab hb T.c36 T.P36 #[]) (t37 : CodeTab hb T.c37 T.P37 ps) (hps : codeAmong (lamQ key2E) ps.toList = none)
   (hh : A.handled = none) (hroom : A.depth + 20 < recursionLimit) (hu : A.units + 40 < cLine)
   (ha : Has (RL RC) n s.heap m "alphabet" (alphaOf f words)) (h6 : Has (RL RW) n s.heap m "words" words) (h8 : Has (RL RW) n s.heap m "readings" words) (hrow : Row (lettersOf f) words)
   (h : ∀ s', Sm s s' → KeepNot T.ps hb s'.heap → (∀ b ∈ T.ps, IsTab s'.heap b) → Q (.ret (.bool true)) s') :
   wpAny (model prog w) A (execs (bdW 14) (envW L al (.ref T.c37))) Q E s := by
 have hseven := hrow.seven
 have htwo := hrow.two
 have hperm := alpha_perm f words
 have hmem : ∀ l ∈ words, ∀ c ∈ l, c ∈ alphaOf f words := fun l hl c hc => hperm.mem_iff.mpr (hrow.mem l hl c hc)
 have halen : (alphaOf f words).length ≤ 100 := by rw [hperm.length_eq, lettersOf_len]; decide
 generalize alphaOf f words = alpha at ha hperm hmem halen
 have hP2 : T.P2 < hb.objs.size := Heap.lt_size t2.2.2
 have hP36 : T.P36 < hb.objs.size := Heap.lt_size t36.2.2
 have hP37 : T.P37 < hb.objs.size := Heap.lt_size t37.2.2
 have m2 : T.P2 ∈ T.ps := .head _
 have m36 : T.P36 ∈ T.ps := .tail _ (.head _)
 have m37 : T.P37 ∈ T.ps := .tail _ (.tail _ (.head _))
 refine el_EA ha ?_; try clear ha; intro va ea ra
 refine el_EA h6 ?_; try clear h6; intro vw ew rw_
 refine el_EA h8 ?_; try clear h8; intro vr er rr
 have X₀ := hW hb (fun b o _ e => e)
 have W₀ := X₀.w.keeps F.base
 refine wpAny_execs_cons ?_
 exists wpAny_Assign_Name ?_ (by trivial)
 exists Call_NameKw ?_
 exists n_bi W₀ (by trivial) (by trivial) (by trivial) (by trivial) (by trivial) (by decide) (W₀.no "sorted" (by decide)) PyProof.Rows.boot_sorted ?_
 exists cw_kw (by trivial) ?_
 exists cutG (ops := fun o i => [o, i]) (fun _ _ => (by trivial)) ?_
 exists n_loc F (by trivial) (by trivial) (by trivial) er ?_
 exists evalPart_none_step ?_
 exists evalPart_none_step ?_
 exists evalPart_some_step ?_
 exists wpAny_UnaryOp ?_
 exists wpAny_Constant_int ?_
 exists PyProof.Rows.neg_int ?_
 refine el_EEAAA rr ?_; try clear rr; intro ar vrs zz0 har hplr hpr
 obtain rfl := zz0
 have hrl := Paired.length hpr
 refine ⟨ar, vrs, none, none, some (-1), rfl, hplr.isList, by omega, .none, .none, .int _ _, by simp, fun D s₁ u₁ hD hl₁ => ?_⟩
 rw [krv_pick] at hl₁
 have u₁' : Up s s₁ := ⟨⟨u₁.st.gens, u₁.st.drawn, u₁.st.os⟩, u₁.keep, u₁.size⟩
 have F₁ := (F.pass u₁').here
 have rl₁ : (RL RW).r (fun b => n ≤ b) s₁.heap (.ref D) words.reverse := ⟨D, _, rfl, Nat.le_trans F.top hD, hl₁, Paired.imp (fun _ _ q => q) (paired_rev hpr)⟩
 have ra₁ := (RL RC).up u₁'.keep.on ra
 have rw₁ := (RL RW).up u₁'.keep.on rw_
 have W₁ := W₀.up u₁'
 have X₁ := hW s₁.heap (fun b o _ e => F₁.base b o e)
 clear F W₀ u₁ hpr hplr har
 exists wpAny_Call_NameR ?_
 exists n_gl W₁ (by trivial) (by trivial) (by trivial) (by trivial) W₁.gctk ?_
 exists cw_def (by trivial) ?_
 exists sp_more (by trivial) ?_
 exists wpAny_Call_NameR ?_
 exists n_gl W₁ (by trivial) (by trivial) (by trivial) (by trivial) W₁.gcompare ?_
 exists cw_def (by trivial) ?_
 exists sp_more (by trivial) ?_
 exists n_cell F₁ (by trivial) (by trivial) (by trivial) (by trivial) ea ?_
 exists spliced_none ?_
 exists ⟨W₁.dcompare.fn, ?_⟩
 have t36₁ := t36.keeps F₁.base
 refine wpAny_call (codeAny_mono (c_lawcmp (by omega) W₁.lim W₁.g X₁.d36 t36₁ (CodeTab.ne X₁ t36₁) (CodeTab.bAt X₁ t36₁)) fun r s₂ H => ?_)
 refine el_EEEEEAAAAAAAAAAA H ?_; try clear H; intro fc c' P' ca qual zz1 sm₂ k₂ hz₂ hLam hTab hca hfc hP' hca' hcaP htb36
 obtain rfl := zz1
 refine el_EAAAA (table_step F₁ k₂ (fun b hb => by rw [List.mem_singleton.mp hb]; exact hP36) hz₂) ?_; intro hb₂ hsz₂ kb₂ F₂ hat₂ ko₂
 have X₂ := hW hb₂ (kb₂.sub fun b hb => by rw [List.mem_singleton.mp hb]; exact m36)
 have W₂ := X₂.w.keeps F₂.base
 have rl₂ := (RL RW).up ko₂ rl₁
 have ra₂ := (RL RC).up ko₂ ra₁
 have rw₂ := (RL RW).up ko₂ rw₁
 have t2₂ : CodeTab hb₂ T.c2 T.P2 #[] := t2.on kb₂ (fun q => ok.c2 (by rw [List.mem_singleton.mp q]; exact m36)) (fun q => ok.a (List.mem_singleton.mp q))
 have t37₂ : CodeTab hb₂ T.c37 T.P37 ps := t37.on kb₂ (fun q => ok.c37 (by rw [List.mem_singleton.mp q]; exact m36)) (fun q => ok.c (List.mem_singleton.mp q).symm)
 have hns₁ : hb.objs.size ≤ s₁.heap.objs.size := Nat.le_trans F₁.lo (Nat.le_trans (Nat.le_of_lt F₁.hi) F₁.top)
 exists spliced_none ?_
 exists ⟨W₂.dctk.fn, ?_⟩
 refine el_EA (X₂.gname) ?_; intro nm gn hnm
 have X₂' := hW s₂.heap (fun b o hb e => F₂.base b o (kb₂ b o (fun q => hb (by rw [List.mem_singleton.mp q]; exact m36)) e))
 have t2s := t2₂.keeps F₂.base
 refine wpAny_call (codeAny_mono (c_ctk (by omega) W₂ X₂'.d2 t2s (CodeTab.ne X₂' t2s) (CodeTab.bAt X₂' t2s) gn hnm X₂'.nt) fun r s₃ H => ?_)
 refine el_EEEEEEEEEEEA H ?_; try clear H; intro C DK pm f1 f2 cell m' tp TK u6 tq zz2 K
 obtain rfl := zz2
 refine el_EAAAA (table_step F₂ K.keep (fun b hb => by rw [List.mem_singleton.mp hb, hsz₂]; exact hP2) K.size) ?_; intro hb₃ hsz₃ kb₃ F₃ hat₃ ko₃
 have kb₁₃ : KeepNot T.ps hb hb₃ := (kb₂.sub fun b hb => by rw [List.mem_singleton.mp hb]; exact m36).then (kb₃.sub fun b hb => by rw [List.mem_singleton.mp hb]; exact m2)
 have X₃ := hW hb₃ kb₁₃
 have W₃ := X₃.w.keeps F₃.base
 have hnP : n ≤ P' := Nat.le_trans F₁.top hP'
 have rl₃ := (RL RW).up (fun b o hb e => ko₃ b o hb.1 (ko₂ b o hb.1 e)) (rw_at hP' rl₁)
 have ra₃ := (RL RC).up (fun b o hb e => ko₃ b o hb.1 (ko₂ b o hb.1 e)) (rc_at hP' ra₁)
 have rw₃ := (RL RW).up (fun b o hb e => ko₃ b o hb.1 (ko₂ b o hb.1 e)) (rw_at hP' rw₁)
 refine el_E (X₃.gmiss) ?_; intro I₀ hI₀
 have hsz13 : hb₃.objs.size ≤ P' := by
   rw [hsz₃, hsz₂]; exact Nat.le_trans hns₁ hP'
 have hB : hb₃.BuiltinsAt mg P' := X₃.bAt P' fun o e => absurd (Heap.lt_size e) (Nat.not_lt.mpr hsz13)
 have hPne : P' ≠ T.P2 := fun q => by
   rw [q] at hP'
   exact absurd (Nat.lt_of_lt_of_le hP2 hns₁) (Nat.not_lt.mpr hP')
 have hcane : ca ≠ T.P2 := fun q => by
   rw [q] at hca'
   exact absurd (Nat.lt_of_lt_of_le hP2 hns₁) (Nat.not_lt.mpr hca')
 have hca₃ : s₃.heap.IsCell ca (some va) := by
   refine el_EA hca ?_; try clear hca; intro oc e1 e2
   exact ⟨oc, K.keep _ _ (fun q => hcane (List.mem_singleton.mp q)) e1, e2⟩
 have XK : KAt s₃.heap C DK pm f1 f2 cell (.ref fc) m' tp TK u6 tq := ⟨K.cls, K.ns, K.mem, K.fn1, K.fn2, K.cell, K.mo, K.mi, K.ml, K.mno⟩
 refine sorted_cmp (I₀ := I₀) (hb := hb₃) (by omega) hh (by omega) X₃.w F₃.base hsz13 X₃.dred hI₀ hB (hLam.but t2s K.keep) (hTab.but t2s K.keep hPne) hca₃ hcaP ((RL RC).mono (fun b hb => hb.2) ra₃) (by omega) (fun l hl => Nat.le_trans (hrow.short l (List.mem_reverse.mp hl)) (by decide)) (fun l hl => hmem l (List.mem_reverse.mp hl)) XK ((RL RW).mono (fun b hb => hb.2) rl₃) (by rw [List.length_reverse]; exact htwo) (by rw [List.length_reverse]; exact hseven) fun vt s₄ res sm₄ k₄ hrt hot => ?_
 have F₄ := F₃.turn low k₄ (fun b hb => by rw [List.mem_singleton.mp hb]; exact hnP)
 have kk₄ : KeepOn (fun b => n ≤ b ∧ b ≠ P') s₃.heap s₄.heap := fun b o hb e => k₄ b o (fun q => hb.2 (List.mem_singleton.mp q)) e
 have ra₄ := (RL RC).up kk₄ ra₃
 have rw₄ := (RL RW).up kk₄ rw₃
 have rt₄ : (RL RW).r (fun b => n ≤ b) s₄.heap vt res := (RL RW).mono (fun b hb => Nat.le_trans F₃.top hb) hrt
 exists st_loc F₄ (by trivial) (by trivial) (by trivial) fun s₅ F₅ hs₅ sm₅ => ?_
 have ko₅ := F₅.ko
 have kf₅ := F₅.keep
 have ra₅ := (RL RC).mono (fun b hb => hb.1) ((RL RC).up (fun b o hb e => ko₅ b o hb.1 e) ra₄)
 have rw₅ := (RL RW).mono (fun b hb => hb.1) ((RL RW).up (fun b o hb e => ko₅ b o hb.1 e) rw₄)
 have rt₅ := (RL RW).up ko₅ rt₄
 replace F₅ := F₅.here
 have W₅ := X₃.w.keeps F₅.base
 have X₅ := hW s₅.heap (fun b o hb e => F₅.base b o (kb₁₃ b o hb e))
 have t37₃ : CodeTab hb₃ T.c37 T.P37 ps := t37₂.on kb₃ (fun q => ok.c37 (by rw [List.mem_singleton.mp q]; exact m2)) (fun q => ok.b (List.mem_singleton.mp q).symm)
 have t37₅ := t37₃.keeps F₅.base
 have sm₅' : Sm s s₅ := u₁'.st.trans (sm₂.trans (K.st.trans (sm₄.trans sm₅)))
 refine wpAny_execs_cons ?_
 exists wpAny_Return_some ?_
 refine wpAny_Compare1 ?_
 exists n_loc F₅ (by trivial) (by trivial) (by trivial) upd_eq ?_
 exists Call_NameKw ?_
 exists n_bi W₅ (by trivial) (by trivial) (by trivial) (by trivial) (by trivial) (by decide) (W₅.no "sorted" (by decide)) PyProof.Rows.boot_sorted ?_
 exists cw_kw (by trivial) ?_
 exists n_loc F₅ (by trivial) (by trivial) (by trivial) (v := vw) ?_ ?_
 · exact upd_ne (by decide) ew
 refine make_new (c := T.c37) (P := T.P37) (ps := ps) (mg := mg) (params := lamP key2E) (body := lamB key2E) (scope := lamS key2E) (pos := lamQ key2E) (clos := [(Str.ofString "alphabet", L + 3)]) (by trivial) ?_ rfl (by trivial) W₅.g (by trivial) t37₅ hps (CodeTab.ne X₅ t37₅) (CodeTab.bAt X₅ t37₅) fun fk c9 P9 s₆ st₆ k₆ hz₆ hf₆ hLam6 hTn hP9 hT9 => ?_
 · with_unfolding_all rfl
 refine el_EAAAA (table_step F₅ k₆ (fun b hb => by rw [List.mem_singleton.mp hb, hsz₃, hsz₂]; exact hP37) hz₆) ?_; intro hb₆ hsz₆ kb₆ F₆ hat₆ ko₆
 have kb₁₆ : KeepNot T.ps hb hb₆ := kb₁₃.then (kb₆.sub fun b hb => by rw [List.mem_singleton.mp hb]; exact m37)
 have X₆ := hW hb₆ kb₁₆
 have W₆ := X₆.w.keeps F₆.base
 have hc₆ := (F₆.cs (Str.ofString "alphabet") (L + 3) (by trivial)).1
 have ea' : (if Str.ofString "alphabet" = Str.ofString "turned" then some vt else m (Str.ofString "alphabet")) = some va := upd_ne (by decide) ea
 rw [ea'] at hc₆
 refine sorted_key2 (va := va) (alpha := alpha) (words := words) (by omega) hh (by omega) W₆ hLam6 hc₆ (rl_all ((RL RC).up ko₆ ra₅)) halen (fun l hl => Nat.le_trans (hrow.short l hl) (by decide)) hmem (rl_all ((RL RW).up ko₆ rw₅)) htwo hseven fun v2 s₇ res2 u₇ hr2 ho2 => ?_
 have e : res = res2 := inOrder_one hmem hot ho2
 refine eqL EqR.word [] ((RL RW).up u₇.keep.on (rl_all ((RL RW).up ko₆ rt₅))) (rl_all hr2) (by omega) ?_
 rw [decide_eq_true e]
 have F₇ := F₆.pass u₇
 have hz3 : hb₃.objs.size = hb.objs.size := hsz₃.trans hsz₂
 have h36' : T.P36 ≠ P' := fun q => by
   rw [← q] at hP'
   exact absurd (Nat.lt_of_lt_of_le hP36 hns₁) (Nat.not_lt.mpr hP')
 have go : ∀ b : Addr, b < hb.objs.size → b ≠ P' → b ≠ T.P37 → IsTab s₃.heap b → IsTab s₇.heap b := fun b h1 h2 h3 x => x.on fun o e => u₇.keep _ _ (k₆ _ o (fun q => h3 (List.mem_singleton.mp q)) (kf₅ _ o (.inl (hz3 ▸ h1)) (k₄ _ o (fun q => h2 (List.mem_singleton.mp q)) e)))
 have hts : ∀ b ∈ T.ps, IsTab s₇.heap b := fun b hb' => by
   rcases List.mem_cons.mp hb' with rfl | hb'
   · exact go _ hP2 (Ne.symm hPne) ok.b K.tab
   rcases List.mem_cons.mp hb' with rfl | hb'
   · exact go _ hP36 h36' ok.c (htb36.on fun o e => K.keep _ o (fun q => ok.a (List.mem_singleton.mp q).symm) e)
   rw [List.mem_singleton.mp hb']
   exact ⟨_, u₇.keep _ _ hTn.2.2⟩
 exact h s₇ (sm₅'.trans ⟨u₇.st.gens.trans st₆.gens, u₇.st.drawn.trans st₆.drawn, u₇.st.os.trans st₆.os⟩) (fun b o hb e => F₇.base b o (kb₁₆ b o hb e)) hts
end
theorem letters_nodup (f : Int) : (lettersOf f).Nodup := by
 have h : ∀ r, r < 6 → ((List.range 4).map fun k => ring.getD ((r + k) % 6) 0).Nodup := by decide
 have e : lettersOf f = (List.range 4).map fun k => ring.getD (((Int.fdiv f 2 % 6).toNat + k) % 6) 0 := by
   unfold lettersOf
   refine List.map_congr_left fun k _ => ?_
   congr 1
   unfold seatOf
   rw [Int.fmod_eq_emod_of_nonneg _ (by decide)]
   lia
 rw [e]
 exact h _ (by lia)
section
variable {prog : Program} {w : World} {A : Around} {s : Shared} {P : Adr} {T : Tb} {mg mb : PySem.Str → Option Value}
theorem c_law {l : Addr} {vs : List Value} {ns : List Int} (hroom : A.depth + 30 < recursionLimit) (hh : A.handled = none) (hu : A.units + 60 < cLine) (hfr : A.frames = some []) (hW : ∀ h', KeepNot T.ps s.heap h' → Wx P T mg mb h') (ok : T.Ok)
   (t2 : CodeTab s.heap T.c2 T.P2 #[]) (t36 : CodeTab s.heap T.c36 T.P36 #[]) (t37 : CodeTab s.heap T.c37 T.P37 #[]) (hl : s.heap.IsList l (List.toArray vs)) (hi : IntsAre vs ns) (hz : ns.length ≤ 63) :
   codeAny (model prog w) A (.call (.ref T.al) ⟨[.ref l], []⟩) (fun r s' => r = .ok (.ret (.bool true)) ∧ Sm s s' ∧ KeepNot T.ps s.heap s'.heap ∧ ∀ b ∈ T.ps, IsTab s'.heap b) s := by
 have X := hW s.heap (fun b o _ e => e)
 have m37 : T.P37 ∈ T.ps := .tail _ (.tail _ (.head _))
 refine enterC (binds := [(Str.ofString "script", .ref l)]) (by lia) X.d37 X.w.lim (by intros; rfl) (by rfl) (by rfl) ?_ rfl rfl rfl
 intro L s₁ n₁ hL F₁ u
 refine el_EAA (F₁.lower) ?_; intro n hle low F
 have hh' := deep_none hh (envW L T.al (.ref T.c37))
 have hroom' : (A.deeper (envW L T.al (.ref T.c37))).depth + 20 < recursionLimit := by show A.depth + 1 + 20 < recursionLimit; lia
 have hu' : (A.deeper (envW L T.al (.ref T.c37))).units + 40 < cLine := by show A.units + 3 + 40 < cLine; lia
 have hfr' : (A.deeper (envW L T.al (.ref T.c37))).frames = some [envW L T.al (.ref T.c37)] := Around.frames_deeper hfr
 show wpAny _ _ (execs (bdW 0) (envW L T.al (.ref T.c37))) _ _ _
 refine seg0 F (by trivial) (islK hl u.keep) hi hz fun s₂ vn t m₂ F₂ sm₂ e1 e2 r1 => ?_
 refine seg1 F₂ X.w hh' hroom' e1 e2 r1 fun s₃ vl vo vh m₃ F₃ sm₃ e1 e2 e3 e4 e5 r1 r3 r4 r5 => ?_
 refine seg2 F₃ X.w hh' hroom' e1 e3 r1 (numsOf_len ns) r3 fun s₄ vd u₄ rd => ?_
 have k₄ := u₄.ko n
 have hrow₀ := drawn_row (numsOf_ne ns) (numsOf_len ns) ((numsOf ns).headD 0)
 generalize (numsOf ns).headD 0 = f at *
 refine seg3 (F₃.pass u₄).here (fun h' k => hW h' (k.sub fun b hb => by rw [List.mem_singleton.mp hb]; exact m37)) t37 hh' hroom' hu' e2 ⟨vl, e3, (RL RC).up k₄ r3⟩ ⟨vo, e4, (RL (RL RC)).up k₄ r4⟩ ⟨vh, e5, (RL RC).up k₄ r5⟩ rd hrow₀
   fun s₅ m₅ hb' ps words F₅ sm₅ hsz kb tab hps h3 h4 h5 h6 hrow => ?_
 have kbT : KeepNot T.ps s.heap hb' := kb.sub fun b hb => by rw [List.mem_singleton.mp hb]; exact m37
 have X' := hW hb' kbT
 have n37 : ∀ b : Addr, b ∉ T.ps → b ∉ [T.P37] := fun b hb q => hb (by rw [List.mem_singleton.mp q]; exact m37)
 have t2' : CodeTab hb' T.c2 T.P2 #[] := t2.on kb (n37 _ ok.c2) (fun q => ok.b (List.mem_singleton.mp q))
 have t36' : CodeTab hb' T.c36 T.P36 #[] := t36.on kb (n37 _ ok.c36) (fun q => ok.c (List.mem_singleton.mp q))
 refine seg4 F₅ X' hh' hroom' hu' h6 hrow fun s₆ vm F₆ sm₆ ko₆ rm => ?_
 refine seg5 F₆ X' hh' hroom' hu' (h6.on ko₆ (by trivial)) hrow ⟨vm, upd_eq, rm⟩ fun s₇ vr F₇ sm₇ ko₇ rr => ?_
 have ko₅₇ := ko₆.trans ko₇
 refine seg6 F₇ low X' hh' hroom' hu' hfr' (letters_nodup f) (h3.on ko₅₇ (by trivial)) (h4.on ko₅₇ (by trivial)) (h5.on ko₅₇ (by trivial)) (h6.on ko₅₇ (by trivial)) ⟨vr, upd_eq, rr⟩ hrow fun s₈ m₈ F₈ sm₈ ha h6 h8 => ?_
 refine seg7 F₈ low (fun h' k => hW h' (kbT.then k)) ok t2' t36' tab hps hh' hroom' hu' ha h6 h8 hrow fun s₉ sm₉ kk ht => ?_
 exact ⟨rfl, u.st.trans (sm₂.trans (sm₃.trans (u₄.st.trans (sm₅.trans (sm₆.trans (sm₇.trans (sm₈.trans sm₉))))))), kbT.then kk, ht⟩
end
noncomputable def isDone : Step → Bool
 | .halt (.done _) _ => true
 | _ => false
theorem not_done {den : Code → Sem PySem.Fin} {p : Program} {w : World} {s : Shared} {t : Thread} : through t = false → isDone (step den p w s t) = false := by
 obtain ⟨heap, gens, drawn, toks, os⟩ := s
 obtain ⟨cur, code, pos, stack⟩ := t
 cases cur
 case pure fin =>
   cases fin with
   | again c => exact fun _ => rfl
   | done f =>
     cases stack with
     | nil => exact fun h => nomatch h
     | cons fr rest => cases fr <;> exact fun _ => rfl
 case raise e =>
   cases stack with
   | nil =>
     intro _
     show isDone (finish _ _) = false
     unfold finish
     split <;> rfl
   | cons fr rest => cases fr <;> exact fun _ => rfl
 case finish e =>
   intro _
   show isDone (if leftWithCleanup gens = true then _ else _) = false
   split <;> rfl
 case load a r k =>
   intro _
   show isDone (match heap.get? a with | some o => _ | none => _) = false
   cases heap.get? a <;> rfl
 case update a r f k =>
   intro _
   show isDone (if (heap.get? a).isSome = true then _ else _) = false
   split <;> rfl
 case choose src n k =>
   intro _
   show isDone (if n = 0 then _ else _) = false
   split <;> rfl
 case genState g k =>
   intro _
   show isDone (match gens[g]? with | none => _ | some st => _) = false
   cases gens[g]? <;> rfl
 case resume g r l k =>
   intro q
   clear q
   show isDone (match gens[g]? with | none => _ | some (.fresh c) => (match r with | .send .none => _ | .send _ => _ | .throw e => _) | some (.suspended kk _ c p frames _) => _ | some .running => _ | some .finished => _) = false
   cases gens[g]? with
   | none => rfl
   | some st =>
     cases st
     case fresh c => 
       cases r
       case send v => cases v <;> rfl
       all_goals rfl
     all_goals rfl
 case yield v g0 l kk =>
   intro _
   show isDone (match splitAtGen stack with | some (_, (_, _, _, _), _) => _ | none => _) = false
   cases splitAtGen stack <;> rfl
 all_goals exact fun _ => rfl
theorem halt_done {den : Code → Sem PySem.Fin} {p : Program} {w : World} {s s'' : Shared} {t : Thread} {f : Flow} (h : step den p w s t = .halt (.done f) s'') : through t = true ∧ s'' = s := by
 have ht : through t = true := by
   cases q : through t with
   | true => rfl
   | false =>
     have := not_done (den := den) (p := p) (w := w) (s := s) q
     rw [h] at this
     cases this
 refine ⟨ht, ?_⟩
 obtain ⟨cur, code, pos, stack⟩ := t
 cases stack with
 | cons fr rest => cases ht
 | nil =>
   cases cur
   case pure fin =>
     cases fin with
     | again c => cases ht
     | done f' =>
       replace h : finish (.done f') s = .halt (.done f) s'' := h
       unfold finish at h
       split at h
       · cases h
       · cases h; rfl
   all_goals cases ht
theorem through_of {p : Program} {w : World} : ∀ (n : Nat) (s : Shared) (t : Thread) (f : Flow) (s'' : Shared), s.asleep → PySem.runN (denote table) p w n s t = .halted (.done f) s'' →
   (∀ k s₁ t₁, PySem.runN (denote table) p w k s t = .running s₁ t₁ → t₁.calm = true) → ∃ m t₁, schedN (denote table) p w m (.single s t) = .running (.single s'' t₁) ∧ through t₁ = true
 | 0, _, _, _, _, _, h, _ => by cases h
 | n + 1, s, t, f, s'', hz, h, hc => by
   unfold PySem.runN at h
   cases hs : step (denote table) p w s t with
   | halt o s₁ =>
     rw [hs] at h
     cases h
     refine el_A (halt_done hs) ?_; intro h1 zz0
     obtain rfl := zz0
     exact ⟨0, t, rfl, h1⟩
   | go s' t' =>
     rw [hs] at h
     have hl := step_life (denote table) p w s s' t t' hs
     refine el_EEA (through_of n s' t' f s'' (Shared.asleep_of_life hl hz) h fun k s₁ t₁ hk => hc (k + 1) s₁ t₁ (by unfold PySem.runN; rw [hs]; exact hk)) ?_; intro m t₁ hm ht
     have e : sstep (denote table) p w (.single s t) = .go (.single s' t') := by
       rcases sstep_single (denote table) p w s t (hc 0 s t rfl) hz with e | e
       · rw [e, hs]; rfl
       · rw [hs] at e; cases e
     exact ⟨m + 1, t₁, by simp only [schedN, e]; exact hm, ht⟩
theorem wp_through {p : Program} {w : World} {t : Sem PySem.Fin} {s : Shared} {R : Shared → Prop} (hz : s.asleep)
   (h : wpAny (model p w) callerA t (fun fin s' => ∃ v, fin = .done (.ret v) ∧ R s' ∧ leftWithCleanup s'.gens = false) (fun _ _ => False) s) :
   ∃ m t₁ s₁ s', schedN (denote table) p w m (.single s ⟨t, .builtin "claim.caller" {}, default, []⟩) = .running (.single s₁ t₁) ∧ through t₁ = true ∧ s₁.forget = s'.forget ∧ R s' ∧ s₁.heap.life = s.heap.life := by
 obtain ⟨n, r, s', hn, v, rfl, hR⟩ := (wp_iff_halts (M := model p w) t (fun r s' => ∃ v, r = .ok (.ret v) ∧ R s') default s).mp
   (wp_of_wpAny_done (R := fun r s' => (∃ v, r = .ok (.ret v) ∧ R s') ∧ leftWithCleanup s'.gens = false) caller_in (wpAny_mono h (fun fin s' ⟨v, e, h1, h2⟩ => ⟨.ret v, e, ⟨v, rfl, h1⟩, h2⟩) fun _ _ e => e.elim) default)
 refine el_EAA (runNI_real _ _ _ hn (outcomeOf_ends _)) ?_; intro s'' h1 h2 h3
 refine el_EEA (through_of n s _ (.ret v) s'' hz h1 h3) ?_; intro m t₁ h4 h5
 exact ⟨m, t₁, s'', s', h4, h5, h2, hR, runN_life _ _ _ h1⟩
theorem opened {p : Program} {w : World} {N : Nat} {s₀ : Shared} (h : fencedOpening treeTable p w N = some s₀) :
   (∃ s, AfterRun (opening p) w s) ∧ ∀ s, AfterRun (opening p) w s → fenceModules? p s = some s₀ ∧ s₀.asleep := by
 rw [← table_eq_tree] at h
 refine el_EA (Option.bind_eq_some_iff.mp h) ?_; intro s h4 h5
 have A := AfterImport.of_importEnds h4
 refine ⟨⟨s, A⟩, fun s' hs' => ?_⟩
 obtain rfl : s' = s := AfterImport.unique hs' A
 exact ⟨h5, Shared.asleep_of_life (fence_lifeW h5) A.life⟩
theorem opened_of {p : Program} {w : World} {N : Nat} {α : Type} {f : Shared → α} {a : α} (h : (fencedOpening treeTable p w N).map f = some a) : ∃ s₀, fencedOpening treeTable p w N = some s₀ ∧ f s₀ = a := Option.map_eq_some_iff.mp h
noncomputable abbrev obs0 (s : Shared) : Bool := s.heap.isNs mainGlobals && s.heap.isNs builtinsNs && s.heap.isNs cStatics && s.gens.size == 0 && s.heap.objs.size == 28 && s.toks == 276 && s.heap.bmainOk && s.heap.accountedOkI [Str.ofString "_sre"]
theorem op0 : ∀ w : World, ((fencedOpening treeTable PySem.Challenge.pw_oc0071_01 w 20000).map fun s => (obs0 s, s.heap.bltView, s.heap.nsKeys mainGlobals, (s.heap.nsKeys cStatics).any (fun x => x == Str.ofString "sys.recursionlimit" || x == Str.ofString "thirdparty.any"), s.heap.nsMap mainGlobals (Str.ofString "_sre"), s.heap.get? 12, s.heap.isNs 11, s.heap.nsMap 11 (Str.ofString "compile"))) =
   some (true, bltViewBooted, ["__name__", "__doc__", "__package__", "__loader__", "__spec__", "__annotations__", "__builtins__", "__file__", "__cached__", "_sre"].map Str.ofString, false, some (.ref 12), some { cls := .type "module", dict := some 11, data := .plain }, true, some (.builtin "_sre.compile")) := by
 intro w
 kernel_rfl
structure DefV (h : Heap) (f : Addr) (name : PySem.Str) (params : Arguments) (body : List Stmt) (scope : Scope) (dV : Value) (c P : Addr) : Prop where
 fn : ∃ pm, h.get? f = some { cls := .type "function", data := .func { docDef name params body scope pm (.ref c) .none with defaults := dV } }
 code : h.CodeRec (.ref c) name
 tab : CodeTab h c P #[]
section
variable {M : Model} {A : Around} {E : Value → Shared → Prop} {s : Shared} {name : PySem.Str} {params : Arguments} {body : List Stmt} {scope : Scope} {env : Env} {c P : Addr} {ps : Array Value} {pos : Pos} {mg : PySem.Str → Option Value} {fl : Nat}
theorem make_def {dV : Value} {Q : Value → Shared → Prop} (hcl : closureFor scope env = pure []) (hge0 : env.globals = mainGlobals) (hg : s.heap.Ns mainGlobals mg) (hcode : env.code = .ref c) (T : CodeTab s.heap c P ps)
   (hnf : codeAmong pos ps.toList = none) (hgP : mainGlobals ≠ P) (hb : s.heap.BuiltinsAt mg P) (hdoc : docOf body = none)
   (h : ∀ f c' P' s', Sm s s' → KeepNot [P] s.heap s'.heap → s.heap.objs.size ≤ s'.heap.objs.size → s.heap.objs.size ≤ f → s.heap.objs.size ≤ c' → s.heap.objs.size ≤ P' → DefV s'.heap f name params body scope dV c' P' →
     CodeTab s'.heap c P (ps ++ #[rawInt pos.line, rawInt pos.col, .ref c']) → Q (.ref f) s') :
   wpAny M A (makeTail name name params (.stmts body) scope env dV .none none pos fl) Q E s := by
 refine el_EEAAAAAAA hb ?_; try clear hb; intro bm ob hbm hne0 hbg hneP hbo hcls hdict hdata
 unfold makeTail
 rw [hcl, hge0]
 refine wpAny_bind (wpAny_pure ?_)
 refine wpAny_ite_true (by rfl) (wpAny_bind (wpAny_pure ?_))
 refine wpAny_bind (wpAny_functionCodeX hcode T.1 T.2 hnf fun c' h' tk hx hge hlt hcode' hrec htb hnew => ?_)
 have hg' := hg.extBut hx hgP
 refine wpAny_bind (wpAny_builtinsFor hg' hbm hne0 (hx _ _ hneP hbo) hcls hdict hdata ?_)
 refine wpAny_bind (wpAny_nsGet hg' ?_)
 dsimp only
 rw [hdoc]
 refine wpAny_bind (wpAny_pure (wpAny_newObj_type ?_ (by size_fits)))
 refine el_EAA hnew ?_; try clear hnew; intro P' hP' hC1 hC2
 have hsz : s.heap.objs.size ≤ h'.objs.size := Nat.le_trans hge (Nat.le_of_lt hlt)
 have k2 := Keep.push h' { cls := .type "function", data := .func { docDef name params body scope ((mg "__name__").getD .none) (.ref c') .none with defaults := dV } }
 refine h h'.objs.size c' P' _ ⟨rfl, rfl, rfl⟩ (fun b o hb e => k2 b o (hx b o (fun q => hb (by simp [q])) e)) ?_ hsz hge hP' ⟨⟨_, Heap.get?_push_size _ rfl⟩, hrec.keeps k2, ⟨hC1.keeps k2, hC2.keeps k2⟩⟩ ⟨hcode'.keeps k2, htb.keeps k2⟩
 show _ ≤ (h'.push _).objs.size
 rw [Heap.size_push]; lia
end
structure TS (s s' : Shared) (c P : Addr) (m : PySem.Str → Option Value) (ps : Array Value) : Prop where
 st : Sm s s'
 keep : KeepNot [mainGlobals] s.heap s'.heap
 size : s.heap.objs.size ≤ s'.heap.objs.size
 ns : s'.heap.Ns1 mainGlobals m
 code : CodeTab s'.heap c P ps
 cz : s.heap.objs.size ≤ c
 pz : s.heap.objs.size ≤ P
section
variable {prog : Program} {w : World} {A : Around} {E : Value → Shared → Prop} {s s' : Shared} {c P : Addr} {m : PySem.Str → Option Value} {ps : Array Value} {env : Env}
theorem TS.up (X : TS s s' c P m ps) {s'' : Shared} (u : Up s' s'') : TS s s'' c P m ps :=
 ⟨X.st.trans u.st, fun b o hb e => u.keep _ _ (X.keep b o hb e), Nat.le_trans X.size u.size, X.ns.at fun o e => u.keep _ _ e, X.code.keeps u.keep, X.cz, X.pz⟩
theorem ts_storeZ {x : PySem.Str} {v : Value} {Q : Unit → Shared → Prop} (X : TS s s' c P m ps) (hlt : mainGlobals < s.heap.objs.size) (hk : storeName env x v = nsSet mainGlobals x v)
   (h : ∀ s'', TS s s'' c P (fun y => if y = x then some v else m y) ps → KeepNot [mainGlobals] s'.heap s''.heap → Sm s' s'' → s''.heap.objs.size = s'.heap.objs.size → Q () s'') : wpAny (model prog w) A (storeName env x v) Q E s' := by
 rw [hk]
 refine wpAny_nsSet1EFk X.ns fun h' hn hs hod => ?_
 have hc : c ≠ mainGlobals := Nat.ne_of_gt (Nat.lt_of_lt_of_le hlt X.cz)
 have hP : P ≠ mainGlobals := Nat.ne_of_gt (Nat.lt_of_lt_of_le hlt X.pz)
 have kk : KeepNot [mainGlobals] s'.heap h' := fun b o hb e => (hs.2 b (fun q => hb (List.mem_singleton.mpr q))).trans e
 refine h _ ⟨⟨X.st.gens, X.st.drawn, X.st.os⟩, fun b o hb e => kk b o hb (X.keep b o hb e), Nat.le_trans X.size (Nat.le_of_eq hs.1.symm), hn, X.code.on kk (fun q => hc (List.mem_singleton.mp q)) (fun q => hP (List.mem_singleton.mp q)), X.cz, X.pz⟩ kk ⟨rfl, rfl, rfl⟩ hs.1
theorem ts_store {x : PySem.Str} {v : Value} {Q : Unit → Shared → Prop} (X : TS s s' c P m ps) (hlt : mainGlobals < s.heap.objs.size) (hk : storeName env x v = nsSet mainGlobals x v)
   (h : ∀ s'', TS s s'' c P (fun y => if y = x then some v else m y) ps → KeepNot [mainGlobals] s'.heap s''.heap → Sm s' s'' → Q () s'') : wpAny (model prog w) A (storeName env x v) Q E s' :=
 ts_storeZ X hlt hk fun s'' X'' k st _ => h s'' X'' k st
theorem ts_def {bm : Addr} {ob : Obj} {name : PySem.Str} {params : Arguments} {body : List Stmt} {scope : Scope} {pos : Pos} {fl : Nat} {dV : Value} {Q : Value → Shared → Prop} (X : TS s s' c P m ps) (hlt : mainGlobals < s.heap.objs.size)
   (hcl : closureFor scope env = pure []) (hge0 : env.globals = mainGlobals) (hcode : env.code = .ref c) (hnf : codeAmong pos ps.toList = none) (hdoc : docOf body = none)
   (hbm : m (Str.ofString "__builtins__") = some (.ref bm)) (hbo : s.heap.get? bm = some ob) (hb1 : bm ≠ builtinsNs) (hb2 : bm ≠ mainGlobals) (hb3 : ob.cls = .type "module") (hb4 : ob.dict = some builtinsNs) (hb5 : ob.data = .plain)
   (h : ∀ f c' P' s'', TS s s'' c P m (ps ++ #[rawInt pos.line, rawInt pos.col, .ref c']) → KeepNot [P] s'.heap s''.heap → s'.heap.objs.size ≤ f → s'.heap.objs.size ≤ c' → s'.heap.objs.size ≤ P' → DefV s''.heap f name params body scope dV c' P' → Q (.ref f) s'') :
   wpAny (model prog w) A (makeTail name name params (.stmts body) scope env dV .none none pos fl) Q E s' := by
 have hP : mainGlobals ≠ P := Nat.ne_of_lt (Nat.lt_of_lt_of_le hlt X.pz)
 have hbs : s'.heap.get? bm = some ob := X.keep _ _ (fun q => hb2 (List.mem_singleton.mp q)) hbo
 refine make_def hcl hge0 X.ns.ns hcode X.code hnf hP ⟨bm, ob, hbm, hb1, hb2, Nat.ne_of_lt (Nat.lt_of_lt_of_le (Heap.lt_size hbo) X.pz), hbs, hb3, hb4, hb5⟩ hdoc fun f c' P' s'' st k hz hf hc' hP' hD hT => ?_
 refine h f c' P' s'' ⟨X.st.trans st, fun b o hb e => k b o (fun q => ?_) (X.keep b o hb e), Nat.le_trans X.size hz, X.ns.at fun o e => k _ o (fun q => hP (List.mem_singleton.mp q)) e, hT, X.cz, X.pz⟩ k hf hc' hP' hD
 have := Heap.lt_size e
 rw [List.mem_singleton.mp q] at this
 exact absurd this (Nat.not_lt.mpr X.pz)
end
theorem ns1_of_keys {h : Heap} {a : Addr} (x : h.isNs a = true) (hn : (h.nsKeys a).Nodup) : h.Ns1 a (h.nsMap a) := by
 refine el_EEEAAA (Heap.Ns.of_isNs x) ?_; intro o es ep ho hd hk hf
 refine ⟨o, es, ep, ho, hd, hk, ?_, hf⟩
 unfold Heap.nsKeys at hn
 rw [ho] at hn
 dsimp only at hn
 rw [hd] at hn
 dsimp only at hn
 unfold UniqKeys
 unfold List.Nodup at hn
 have key : ∀ l : List DictEntry, (∀ e ∈ l, ∃ n t, e.key = .str n t) → (l.filterMap fun e => match e.key with | .str n _ => some n | _ => none).Pairwise (· ≠ ·) → l.Pairwise fun a b => ∀ n, a.key.isStr n = true → b.key.isStr n = true → False := by
   intro l
   induction l with
   | nil => intro _ _; exact .nil
   | cons e l ih =>
     intro h1 h2
     refine el_EE (h1 e (.head _)) ?_; intro n t hn
     rw [List.filterMap_cons] at h2
     simp only [hn] at h2
     refine el_A (List.pairwise_cons.mp h2) ?_; intro h3 h4
     refine List.pairwise_cons.mpr ⟨fun b hb x hx hx' => ?_, ih (fun e he => h1 e (.tail _ he)) h4⟩
     refine el_EE (h1 b (.tail _ hb)) ?_; intro n' t' hn'
     rw [hn] at hx
     rw [hn'] at hx'
     have e1 : n = x := by simpa [Value.isStr] using hx
     have e2 : n' = x := by simpa [Value.isStr] using hx'
     exact h3 n' (List.mem_filterMap.mpr ⟨b, hb, by simp [hn']⟩) (e1.trans e2.symm)
 exact key es.toList (fun e he => hk e (by simpa using he)) hn
noncomputable abbrev pwL : Program := PySem.Challenge.pw_oc0071_01
noncomputable abbrev mainNames : List PySem.Str := ["__name__", "__doc__", "__package__", "__loader__", "__spec__", "__annotations__", "__builtins__", "__file__", "__cached__", "_sre"].map Str.ofString
structure S0 (s : Shared) : Prop where
 o : obs0 s = true
 b : s.heap.bltView = bltViewBooted
 k : s.heap.nsKeys mainGlobals = mainNames
 c : (s.heap.nsKeys cStatics).any (fun x => x == Str.ofString "sys.recursionlimit" || x == Str.ofString "thirdparty.any") = false
 r1 : s.heap.nsMap mainGlobals (Str.ofString "_sre") = some (.ref 12)
 r2 : s.heap.get? 12 = some { cls := .type "module", dict := some 11, data := .plain }
 r3 : s.heap.isNs 11 = true
 r4 : s.heap.nsMap 11 (Str.ofString "compile") = some (.builtin "_sre.compile")
theorem S0.out {s : Shared} (S : S0 s) {x : PySem.Str} (h : (x == Str.ofString "sys.recursionlimit" || x == Str.ofString "thirdparty.any") = true) : x ∉ s.heap.nsKeys cStatics := fun q => by
 have := List.any_eq_false.mp S.c x q
 exact this h
theorem s0_of (w : World) : ∃ s₀, fencedOpening treeTable pwL w 20000 = some s₀ ∧ S0 s₀ := by
 refine el_EA (opened_of (op0 w)) ?_; intro s₀ e1 e2
 have e3 := Prod.mk.inj e2
 have e4 := Prod.mk.inj e3.2
 have e5 := Prod.mk.inj e4.2
 have e6 := Prod.mk.inj e5.2
 have e7 := Prod.mk.inj e6.2
 have e8 := Prod.mk.inj e7.2
 have e9 := Prod.mk.inj e8.2
 exact ⟨s₀, e1, e3.1, e4.1, e5.1, e6.1, e7.1, e8.1, e9.1, e9.2⟩
noncomputable abbrev modB : List Stmt := behindTheImports pwL
noncomputable abbrev envM (c fr : Addr) : Env := { scope := pwL.main.scope, locals := mainGlobals, globals := mainGlobals, cells := [], code := .ref c, frame := some fr }
section
variable {w : World} {A : Around} {E : Value → Shared → Prop} {s : Shared}
theorem enter_top {Q : PySem.Fin → Shared → Prop} (hns : s.heap.Ns1 mainGlobals (s.heap.nsMap mainGlobals))
   (h : ∀ s' c P fr, TS s s' c P (s.heap.nsMap mainGlobals) #[] → wpAny (model pwL w) ((A.mark none).deeper (envM c fr)) (execs modB (envM c fr)) (fun f s'' => (f = .next ∧ Q (.done (.ret .none)) s'')) (fun _ _ => False) s') :
   wpAny (model pwL w) A (topStub pwL).cur Q (fun _ _ => False) s := by
 unfold topStub
 dsimp only
 unfold moduleCode
 refine wpAny_bind (wpAny_bind (wpAny_fresh ?_))
 refine wpAny_newCodeX fun c P h' tk k hc hP hC hTb hrec => ?_
 have hns' : h'.Ns mainGlobals (s.heap.nsMap mainGlobals) := hns.ns.keeps k
 refine wpAny_bind ?_
 unfold newBodyFrame
 refine wpAny_bind (wpAny_nsGet hns' (wpAny_alloc ?_))
 have tb : ∀ o, CodeTab (h'.push o) c P #[] := fun o => ⟨hC.keeps (Keep.push _ _), hTb.keeps (Keep.push _ _)⟩
 refine wpAny_bind (wpAny_run (codeAny_body (by decide +kernel) (by kernel_rfl) ?_))
 refine wpAny_mono (h _ c P h'.objs.size ⟨⟨rfl, rfl, rfl⟩, fun b o _ e => Heap.get?_push_of_some _ (k b o e), ?_, hns.at fun o e => Heap.get?_push_of_some _ (k _ o e), tb _, hc, hP⟩) (fun f s'' hf => ?_) fun _ _ x => x.elim
 · show _ ≤ (h'.push _).objs.size
   rw [Heap.size_push]
   have := hC
   refine el_EEEEEEEEEEA hC ?_; try clear hC; intro o vs file tf flags tg inF text tt op e1 _
   exact Nat.le_succ_of_le (Nat.le_trans hc (Nat.le_of_lt (Heap.lt_size e1)))
 · refine el_A hf ?_; try clear hf; intro zz0 hq
   obtain rfl := zz0
   exact wpAny_pure hq
end
structure BM (s : Shared) (bm : Addr) : Prop where
 o : ∃ ob, s.heap.get? bm = some ob ∧ ob.cls = .type "module" ∧ ob.dict = some builtinsNs ∧ ob.data = .plain
 b1 : bm ≠ builtinsNs
 b2 : bm ≠ mainGlobals
noncomputable abbrev kpM (P : Addr) (h h' : Heap) : Prop := KeepNot [mainGlobals, P] h h'
theorem DefV.on {h h' : Heap} {f : Addr} {name : PySem.Str} {params : Arguments} {body : List Stmt} {scope : Scope} {dV : Value} {c P : Addr} {N : List Addr} (x : DefV h f name params body scope dV c P) (k : KeepNot N h h') (hf : f ∉ N) (hc : c ∉ N) (hP : P ∉ N) : DefV h' f name params body scope dV c P := by
 obtain ⟨zz0, zz1, t⟩ := x
 refine el_E zz0 ?_; clear zz0; intro pm e
 refine el_EEEEAA zz1 ?_; clear zz1; intro c0 o0 vs0 t0 e0 g0 r0
 cases e0
 exact ⟨⟨pm, k _ _ hf e⟩, ⟨_, o0, vs0, t0, rfl, k _ _ hc g0, r0⟩, t.on k hc hP⟩
section
variable {prog : Program} {w : World} {A : Around} {E : Value → Shared → Prop} {s s' : Shared} {c P fr bm : Addr} {m : PySem.Str → Option Value} {ps : Array Value}
theorem top_def {name bind : PySem.Str} {as : List Arg} {body : List Stmt} {scope : Scope} {pos : Pos} {Q : Flow → Shared → Prop} (X : TS s s' c P m ps) (hlt : mainGlobals < s.heap.objs.size) (B : BM s bm) (hbm : m (Str.ofString "__builtins__") = some (.ref bm))
   (hann : annotationsOf (as ++ [] ++ [] ++ [] ++ []) (envM c fr) = []) (hcl : closureFor scope (envM c fr) = pure []) (hnf : codeAmong pos ps.toList = none) (hdoc : docOf body = none) (hq : qualnameIn (envM c fr) name bind = name)
   (hst : ∀ v, storeName (envM c fr) bind v = nsSet mainGlobals bind v)
   (h : ∀ f c' P' s'', TS s s'' c P (fun y => if y = bind then some (.ref f) else m y) (ps ++ #[rawInt pos.line, rawInt pos.col, .ref c']) → kpM P s'.heap s''.heap → s'.heap.objs.size ≤ f → s'.heap.objs.size ≤ c' → s'.heap.objs.size ≤ P' → s'.heap.objs.size ≤ s''.heap.objs.size →
     DefV s''.heap f name ⟨[], as, none, [], [], none, []⟩ body scope .none c' P' → Q .next s'') :
   wpAny (model prog w) A (exec (.FunctionDef name ⟨[], as, none, [], [], none, []⟩ body [] none [] scope none bind pos) (envM c fr)) Q E s' := by
 refine el_EAAA (B.o) ?_; intro ob b1 b2 b3 b4
 refine def_stmt rfl hann ?_
 rw [hq]
 refine ts_def X hlt hcl rfl rfl hnf hdoc hbm b1 B.b1 B.b2 b2 b3 b4 fun f c' P' s₁ X₁ k₁ hf hc' hP' hD => ?_
 have hlt' : mainGlobals < s'.heap.objs.size := Nat.lt_of_lt_of_le hlt X.size
 refine ts_store X₁ hlt (hst _) fun s₂ X₂ k₂ st₂ => ?_
 have ne : ∀ b : Addr, s'.heap.objs.size ≤ b → b ∉ [mainGlobals] := fun b hb q => by
   rw [List.mem_singleton.mp q] at hb
   exact absurd hlt' (Nat.not_lt.mpr hb)
 have hz1 : s'.heap.objs.size ≤ s₁.heap.objs.size := by
   obtain ⟨zz2, _, _⟩ := hD
   refine el_E zz2 ?_; clear zz2; intro pm e
   exact Nat.le_trans hf (Nat.le_of_lt (Heap.lt_size e))
 refine h f c' P' s₂ X₂ (fun b o hb e => k₂ b o (fun q => hb (by rw [List.mem_singleton.mp q]; exact .head _)) (k₁ b o (fun q => hb (by rw [List.mem_singleton.mp q]; exact .tail _ (.head _))) e)) hf hc' hP' ?_ (hD.on k₂ (ne _ hf) (ne _ hc') (ne _ hP'))
 have h2 := X₂.size
 refine el_EEEA (X₂.ns) ?_; intro o es ep e1 _
 obtain ⟨zz3, _, _⟩ := hD
 refine el_E zz3 ?_; clear zz3; intro pm e
 exact Nat.le_trans hf (Nat.le_of_lt (Heap.lt_size (k₂ f _ (ne _ hf) e)))
end
section
variable {M : Model} {A : Around} {E : Value → Shared → Prop} {s : Shared} {name : PySem.Str} {body : List Stmt} {scope : Scope} {env : Env} {pos : Pos}
theorem def_stmt_d {bind : PySem.Str} {as : List Arg} {d : Expr} {Q : Flow → Shared → Prop} (hann : annotationsOf (as ++ [] ++ [] ++ [] ++ []) env = [])
   (h : wpAny M A (eval d env) (fun v s₁ => wpAny M A (makeTail name (qualnameIn env name bind) ⟨[], as, none, [], [], none, [d]⟩ (.stmts body) scope env (.ref s₁.heap.objs.size) .none none pos pos.line) (fun f s₂ => wpAny M A (storeName env bind f) (fun _ s₃ => Q .next s₃) E s₂) E
     { s₁ with heap := s₁.heap.push { cls := .type "tuple", data := .seq [v].toArray } }) E s) :
   wpAny M A (exec (.FunctionDef name ⟨[], as, none, [], [], none, [d]⟩ body [] none [] scope none bind pos) env) Q E s := by
 rw [arm_exec_FunctionDef]
 unfold defStmt
 refine wpAny_ite_false (by rfl) ?_
 refine wpAny_bind (wpAny_of_eq (a := []) rfl ?_)
 refine wpAny_bind (wpAny_standAt ?_)
 refine wpAny_bind (wpAny_holding ?_)
 refine wpAny_bind (m := evalAll [eval d env]) (evalAll_cons (wpAny_mono h (fun v s₁ h₁ => PyProof.Rows.evalAll_nil ?_) fun _ _ e => e))
 refine wpAny_bind (wpAny_holding (wpAny_of_eq (a := []) rfl ?_))
 refine wpAny_holding ?_
 dsimp only
 refine wpAny_bind (wpAny_of_eq (a := []) (by show evalNamed (annotationsOf (as ++ [] ++ [] ++ [] ++ []) env ++ []) = _; rw [hann]; rfl) ?_)
 rw [makeFunction_eq]
 simp only [List.zip_nil_left, List.filterMap_nil, List.isEmpty_nil, if_true, pure_bind, List.isEmpty_cons, Bool.false_eq_true, if_false]
 refine wpAny_bind (wpAny_newTextTuple ?_)
 refine wpAny_mono h₁ (fun f s₂ h₂ => ?_) fun _ _ e => e
 refine wpAny_bind (wpAny_of_eq (a := f) rfl ?_)
 refine wpAny_bind (wpAny_standAt ?_)
 unfold bindName
 refine wpAny_bind (wpAny_bind (wpAny_holding (wpAny_point (wpAny_bind (wpAny_mono h₂ (fun _ s₃ h₃ => wpAny_point (wpAny_pure h₃)) fun _ _ e => e)))))
end
theorem ob_init : Slot "object" "__init__" "object.__init__" :=
 .of (owner := "object") (n := "__init__") (by rw [typeLookup_type, builtinLookup_eq_fast]; kernel_rfl) (by decide +kernel) (by decide +kernel) (by decide +kernel)
   (by first | exact .inl (by decide +kernel) | exact .inr (by decide +kernel)) (by rw [isSubtype_type]; kernel_rfl)
theorem ob_mro : mroOf (.type "object") = pure [.type "object"] := by rw [mroOf_type]; kernel_rfl
theorem ob_lookup_new : typeLookup (.type "object") "__new__" = pure (some (.builtin "object.__new__")) := by rw [typeLookup_type, builtinLookup_eq_fast]; kernel_rfl
theorem ob_called : TypeCalled "object" "object.__new__" "object.__init__" :=
 ⟨by decide +kernel, by decide +kernel, ⟨_, _, ob_mro⟩, madeBy_type ob_mro ob_lookup_new (by decide +kernel), by decide +kernel, by rw [isSubtype_type]; kernel_rfl, ob_init⟩
theorem ob_typeCall : checkTypeCall "object" ⟨[], []⟩ = pure () := by kernel_rfl
theorem ob_newCall : checkBuiltinCall "object.__new__" ⟨[.type "object"], []⟩ = pure () := by kernel_rfl
theorem ob_run : Builtin.«object.__new__» ⟨[.type "object"], []⟩ = (do let v ← newObj (.type "object") .plain none; ret v) := by kernel_rfl
section
variable {prog : Program} {w : World} {A : Around} {E : Value → Shared → Prop} {s : Shared}
theorem call_object {Q : Value → Shared → Prop} (h : ∀ a s', Up s s' → s.heap.objs.size ≤ a → s'.heap.get? a = some { cls := .type "object" } → Q (.ref a) s') : wpAny (model prog w) A (call (.type "object") []) Q E s := by
 refine callType_codes (Q₁ := fun obj s₁ => s₁.TypeIs obj "object" ∧ Q obj s₁) ob_called ob_typeCall F.entry_object_init ?_ fun obj s₁ h₁ => ?_
 · refine codeAny_call_builtin_code (Code.quiet_builtin _ PySem.F.objNew.quiet) ?_
   rw [ob_newCall]
   refine wpAny_pure (codeAny_builtin PySem.F.objNew.entry ?_)
   rw [ob_run]
   refine wpAny_bind (wpAny_newObj_type ?_ (by size_fits))
   refine wpAny_pure ?_
   exact ⟨⟨_, Heap.get?_push_size _ rfl, rfl⟩, h _ _ (Up.push _ _) (Nat.le_refl _) (Heap.get?_push_size _ rfl)⟩
 · exact ⟨h₁.1, by unfold argsOk; kernel_rfl, by rw [oi_run]; exact wpAny_pure ⟨rfl, h₁.2⟩⟩
end
section
variable {prog : Program} {w : World} {A : Around} {E : Value → Shared → Prop} {s s' : Shared} {c P fr bm : Addr} {m mb : PySem.Str → Option Value} {ps : Array Value}
theorem t_name {x : PySem.Str} {v : Value} {pos : Pos} {Q : Value → Shared → Prop} (X : TS s s' c P m ps) (hk : loadName (envM c fr) x = loadGlobal (envM c fr) x) (hd : (x == ("__debug__" : Str)) = false) (hv : m x = some v) (h : Q v s') : wpAny (model prog w) A (eval (.Name x pos) (envM c fr)) Q E s' := by
 refine wpAny_Name ?_ hd
 rw [hk]
 exact loadGlobal_global X.ns.ns hv h
theorem t_assign {x : PySem.Str} {px pos : Pos} {e : Expr} {Q : Flow → Shared → Prop} (hlt : mainGlobals < s.heap.objs.size) (hs : swapsWith e (some (.Name x px)) pos.line (envM c fr) = pure false) (hk : ∀ v, storeName (envM c fr) x v = nsSet mainGlobals x v)
   (h : wpAny (model prog w) A (eval e (envM c fr)) (fun v s₁ => ∃ m₁ ps₁, TS s s₁ c P m₁ ps₁ ∧ ∀ s₂, TS s s₂ c P (fun y => if y = x then some v else m₁ y) ps₁ → KeepNot [mainGlobals] s₁.heap s₂.heap → Sm s₁ s₂ → Q .next s₂) E s') :
   wpAny (model prog w) A (exec (.Assign [.Name x px] e pos) (envM c fr)) Q E s' := by
 refine wpAny_Assign_Name (wpAny_mono h (fun v s₁ H => ?_) fun _ _ e => e) hs
 refine el_EEA H ?_; try clear H; intro m₁ ps₁ X₁ hq
 exact ts_store X₁ hlt (hk v) hq
end
section
variable {prog : Program} {w : World} {A : Around} {E : Value → Shared → Prop} {s s' : Shared} {c P fr bm : Addr} {m mb : PySem.Str → Option Value} {ps : Array Value}
theorem t_copy {x : PySem.Str} {px p pos : Pos} {l : Addr} {vs : List Value} {Q : Value → Shared → Prop} (X : TS s s' c P m ps) (hk : loadName (envM c fr) x = loadGlobal (envM c fr) x) (hd : (x == ("__debug__" : Str)) = false) (hv : m x = some (.ref l)) (hl : s'.heap.IsList l (List.toArray vs)) (hz : vs.length ≤ 1000)
   (h : ∀ D s₁, Up s' s₁ → s'.heap.objs.size ≤ D → s₁.heap.PlainList D (List.toArray vs) → Q (.ref D) s₁) :
   wpAny (model prog w) A (eval (.Subscript (.Name x px) (.Slice none none none p) pos) (envM c fr)) Q E s' := by
 exists cutG (ops := fun o i => [i, o]) (fun _ _ => (by trivial)) ?_
 refine t_name X hk hd hv ?_
 exists evalPart_none_step ?_
 exists evalPart_none_step ?_
 exists evalPart_none_step ?_
 refine ⟨l, vs, none, none, none, rfl, hl, hz, .none, .none, .none, by simp, fun D s₁ u₁ hD hl₁ => ?_⟩
 rw [PySem.slicePick_all] at hl₁
 exact h D s₁ u₁ hD hl₁
theorem t_add {x y : PySem.Str} {px py pos : Pos} {a b : PySem.Str} {t u : Tok} {Q : Value → Shared → Prop} (X : TS s s' c P m ps) (hkx : loadName (envM c fr) x = loadGlobal (envM c fr) x) (hky : loadName (envM c fr) y = loadGlobal (envM c fr) y) (hdx : (x == ("__debug__" : Str)) = false) (hdy : (y == ("__debug__" : Str)) = false)
   (hvx : m x = some (.str a t)) (hvy : m y = some (.str b u)) (h : wpAny (model prog w) A (binaryOp .Add (.str a t) (.str b u)) Q E s') :
   wpAny (model prog w) A (eval (.BinOp (.Name x px) .Add (.Name y py) pos) (envM c fr)) Q E s' := by
 exists wpAny_BinOp ?_
 refine t_name X hkx hdx hvx ?_
 exact t_name X hky hdy hvy h
end
theorem sub_list : isSubtype (.type "list") (.type "list") = pure true := by rw [isSubtype_type]; kernel_rfl
section
variable {prog : Program} {w : World} {A : Around} {E : Value → Shared → Prop} {s : Shared}
theorem raws (ns : List Nat) : ((ns.map fun (w : Nat) => rawInt w).toArray.map Builtin.Re.reRawOf).map (·.toNat) = ns.toArray := by
 simp [rawInt, Builtin.Re.reRawOf, Function.comp_def]
theorem sre_compileW {p : PySem.Str} {tp tf tg : Tok} {L D T : Addr} {ns : List (Nat × Tok)} {oL oD oT : Obj} {ep : Nat} {Q : PySem.Fin → Shared → Prop}
   (hL : s.heap.get? L = some oL) (hLc : oL.cls = .type "list") (hLd : ∃ n, oL.data = .seq (List.toArray (ns.map fun x => Value.int (x.1 : Int) x.2)) n) (hb : ∀ x ∈ ns, x.1 < 2 ^ 32)
   (hD : s.heap.get? D = some oD) (hDc : oD.cls = .type "dict") (hDd : oD.data = .dict #[] ep) (hDs : (D == sysModules) = false)
   (hT : s.heap.get? T = some oT) (hTc : oT.cls = .type "tuple") (hwf : ns.map Prod.fst = patCode.toList)
   (h : ∀ a s', Up s s' → s.heap.objs.size ≤ a → IsPat s'.heap a → Q (.done (.ret (.ref a))) s') :
   wpAny (model prog w) A (Builtin.«_sre.compile» ⟨[.str p tp, .int 256 tf, .ref L, .int 0 tg, .ref D, .ref T], []⟩) Q E s := by
 refine el_E hLd ?_; try clear hLd; intro nL hLd
 unfold Builtin.«_sre.compile»
 refine wpAny_bind (wpAny_of_eq (a := [some (.str p tp), some (.int 256 tf), some (.ref L), some (.int 0 tg), some (.ref D), some (.ref T)]) (by kernel_rfl) ?_)
 dsimp only
 refine wpAny_bind (wpAny_of_eq (a := (256 : Int)) (by kernel_rfl) ?_)
 refine wpAny_ite_false (by decide) ?_
 refine wpAny_bind (wpAny_isInstance (T := "list") ⟨_, hL, hLc⟩ sub_list ?_)
 refine wpAny_ite_false (by decide) ?_
 refine wpAny_bind (wpAny_of_eq (a := (0 : Int)) (by kernel_rfl) ?_)
 refine wpAny_ite_false (by decide) ?_
 refine wpAny_bind (wpAny_isInstance (T := "dict") ⟨_, hD, hDc⟩ sub_dict ?_)
 refine wpAny_ite_false (by decide) ?_
 refine wpAny_bind (wpAny_isInstance (T := "tuple") ⟨_, hT, hTc⟩ sub_tuple ?_)
 refine wpAny_ite_false (by decide) ?_
 refine wpAny_bind (wpAny_seqItems hL hLd ?_)
 rw [← Array.forIn_toList]
 refine wpAny_bind (wpAny_forIn_list _ (fun rest b s' => s' = s ∧ ∃ done more : List (Nat × Tok), ns = done ++ more ∧ rest = more.map (fun x => Value.int (x.1 : Int) x.2) ∧ b = (done.map Prod.fst).toArray) _ ?_ ?_ _ _ ⟨rfl, [], ns, rfl, by simp, rfl⟩)
 · intro x rest b s' zzM106_35_4
   refine el_AEEAA zzM106_35_4 ?_; clear zzM106_35_4; intro zz0 done more e1 e2 zz1
   obtain rfl := zz0
   obtain rfl := zz1
   cases more with
   | nil => cases e2
   | cons y more =>
     cases e2
     have hy := hb y (by rw [e1]; simp)
     refine wpAny_bind (wpAny_of_eq (a := some (y.1 : Int)) (by kernel_rfl) ?_)
     dsimp only
     refine wpAny_ite_false (decide_eq_false (by lia)) ?_
     refine wpAny_ite_false (decide_eq_false (by lia)) ?_
     refine wpAny_ite_false (decide_eq_false (by lia)) ?_
     refine wpAny_pure ⟨rfl, done ++ [y], more, by rw [e1]; simp, rfl, by simp⟩
 intro b s' zzM106_47_2
 refine el_AEEAA zzM106_47_2 ?_; clear zzM106_47_2; intro zz2 done more e1 e2 zz3
 obtain rfl := zz2
 obtain rfl := zz3
 cases more with
 | cons y more => cases e2
 | nil =>
   rw [List.append_nil] at e1
   subst e1
   rw [hwf]
   refine wpAny_ite_false rfl ?_
   refine wpAny_bind (wpAny_of_eq (a := (p.cps, 0)) rfl ?_)
   refine wpAny_bind (wpAny_pure ?_)
   refine wpAny_ite_false (by decide +kernel) ?_
   unfold notTheModulesDict
   refine wpAny_bind (wpAny_ite_false (by rw [hDs]; rfl) (wpAny_pure ?_))
   refine wpAny_bind (wpAny_dictEntries hD hDd ?_)
   refine wpAny_bind (wpAny_pure ?_)
   refine wpAny_bind (wpAny_mkInt ?_)
   refine wpAny_bind (wpAny_newTuple ?_)
   unfold newFields
   refine wpAny_bind (wpAny_newObj_type ?_ (by size_fits))
   refine wpAny_pure ?_
   have k2 := Up.push (s := { s' with heap := s'.heap.push { cls := .type "tuple", data := .seq (List.map (fun (w : Nat) => rawInt w) patCode.toList).toArray }, toks := s'.toks + 1 }) { cls := .type "re.Pattern", data := .fields #[.str p tp, .int 256 s'.toks, rawInt 0, .none, .none, .ref s'.heap.objs.size, rawInt 0] }
   have k1 := Up.push (s := { s' with toks := s'.toks + 1 }) { cls := .type "tuple", data := .seq (List.map (fun (w : Nat) => rawInt w) patCode.toList).toArray }
   refine h _ _ ((Up.toks _).trans ((k1 _).trans (k2 _))) ?_ ?_
   · show _ ≤ (s'.heap.push _).objs.size
     rw [Heap.size_push]; lia
   · refine ⟨_, _, s'.heap.objs.size, _, _, _, Heap.get?_push_size _ rfl, rfl, rfl, rfl, rfl, rfl, rfl, (k2 _).keep _ _ (Heap.get?_push_size _ rfl), rfl, ?_⟩
     exact raws patCode.toList
end
section
variable {M : Model} {A : Around} {E : Value → Shared → Prop} {env : Env}
theorem sp_ints {pos : Pos} : ∀ (l : List (Nat × Pos)) {s : Shared} {Q : List Value → Shared → Prop} (_ : ∀ (ns : List (Nat × Tok)) s', Up s s' → ns.map Prod.fst = l.map Prod.fst → Q (ns.map fun x => Value.int (x.1 : Int) x.2) s'),
   wpAny M A (spliced (backTo pos (starEach (l.map fun x => Expr.Constant (.int (x.1 : Int)) 0 x.2) env))) Q E s
 | [], s, Q, h => wpAny_items_nil (h [] s (Up.refl _) rfl)
 | x :: l, s, Q, h => wpAny_items_cons (wpAny_Constant_int (sp_ints l fun ns s' u e => h ((x.1, s.toks) :: ns) s' ((Up.toks _).trans u) (by rw [List.map_cons, e]; rfl)))
end
theorem entry_sre_compile : entryFor table "_sre.compile" = some Builtin.«_sre.compile» := entryFor_of_tree (by kernel_rfl)
theorem mod_nocompile : typeLookup (.type "module") "compile" = pure none := by rw [typeLookup_type, builtinLookup_eq_fast]; kernel_rfl
section
variable {prog : Program} {w : World} {A : Around} {E : Value → Shared → Prop} {s s' : Shared} {c P fr bm : Addr} {m mb : PySem.Str → Option Value} {ps : Array Value}
theorem t_compile {x : PySem.Str} {px pa p1 p2 p3 p4 p5 p6 p7 pos : Pos} {pat : PySem.Str} {l : List (Nat × Pos)} {Mo D : Addr} {md : PySem.Str → Option Value} {Q : Value → Shared → Prop} (X : TS s s' c P m ps) (hk : loadName (envM c fr) x = loadGlobal (envM c fr) x) (hd : (x == ("__debug__" : Str)) = false)
   (hv : m x = some (.ref Mo)) (hm : Flt.IsCMod s'.heap Mo D md) (hc : md (Str.ofString "compile") = some (.builtin "_sre.compile")) (hline : (pa.endLine == pos.line) = true) (hbase : attributeBase (.Name x px) (Str.ofString "compile") (envM c fr) (eval (.Name x px) (envM c fr)) = eval (.Name x px) (envM c fr)) (hl : l.map Prod.fst = patCode.toList) (hsys : sysModules < s.heap.objs.size)
   (h : ∀ a s₁, Up s' s₁ → s'.heap.objs.size ≤ a → IsPat s₁.heap a → Q (.ref a) s₁) :
   wpAny (model prog w) A (eval (.Call (.Attribute (.Name x px) (Str.ofString "compile") pa) [.Constant (.str pat) 0 p1, .Constant (.int 256) 0 p2, .List (l.map fun x => Expr.Constant (.int (x.1 : Int)) 0 x.2) p3, .Constant (.int 0) 0 p4, .Dict [] [] p5, .Tuple [.Constant .none 0 p6] 0 p7] [] pos) (envM c fr)) Q E s' := by
 have hform : methodCallForm 6 (backTo pos (starEach [.Constant (.str pat) 0 p1, .Constant (.int 256) 0 p2, .List (l.map fun x => Expr.Constant (.int (x.1 : Int)) 0 x.2) p3, .Constant (.int 0) 0 p4, .Dict [] [] p5, .Tuple [.Constant .none 0 p6] 0 p7] (envM c fr))) (backToKw pos (keywordEach [] (envM c fr))) = true := rfl
 have hpos : methodCallPos true (.Name x px) (envM c fr) pa pos = pure pos := by unfold methodCallPos; simp [hline]
 rw [arm_eval_Call, hbase]
 refine wpAny_bind (t_name X hk hd hv ?_)
 refine wpAny_bind (wpAny_standAt ?_)
 unfold methodCall
 dsimp only [List.length]
 rw [hform]
 unfold calleeOf
 refine wpAny_bind (wpAny_holding ?_)
 refine wpAny_ite_true rfl ?_
 obtain ⟨hq, g, d, tk, os⟩ := s'
 refine Flt.getMethod_module hm mod_nocompile hc rfl ?_
 dsimp only
 refine wpAny_bind (wpAny_of_eq hpos ?_)
 refine cw_bi rfl (sp_more rfl (wpAny_Constant_str (sp_more rfl (wpAny_Constant_int (sp_more rfl (wpAny_List (sp_ints l fun ns s₁ u₁ hn => ⟨?_, ?_⟩)))))))
 · rw [List.length_map, ← List.length_map (f := Prod.fst), hn, hl]; decide
 refine sp_more rfl (wpAny_Constant_int (sp_more rfl (wpAny_Dict_empty (sp_more rfl (wpAny_Tuple (sp_more rfl (wpAny_Constant_none (wpAny_items_nil ⟨by decide, wpAny_items_nil ?_⟩))))))))
 refine wpAny_call (codeAny_call_builtin (by decide +kernel) entry_sre_compile ?_)
 refine wpAny_of_eq (a := ()) (by kernel_rfl) ?_
 have hbig : ∀ k ∈ patCode.toList, k < 2 ^ 32 := by decide
 have hz := Nat.le_trans X.size u₁.size
 refine sre_compileW (ns := ns) (ep := 0) (Heap.get?_push_of_some _ (Heap.get?_push_of_some _ (Heap.get?_push_size _ rfl))) rfl ⟨_, rfl⟩ (fun x hx => hbig _ (by rw [← hl, ← hn]; exact List.mem_map_of_mem hx)) (Heap.get?_push_of_some _ (Heap.get?_push_size _ rfl)) rfl rfl ?_ (Heap.get?_push_size _ rfl) rfl (by rw [hn, hl]) fun a s₂ u₂ ha hp => ?_
 · show ((s₁.heap.push _).objs.size == sysModules) = false
   rw [Heap.size_push]
   exact beq_false_of_ne (Nat.ne_of_gt (Nat.lt_succ_of_lt (Nat.lt_of_lt_of_le hsys hz)))
 · have U1 : Up ⟨hq, g, d, tk, os⟩ s₁ := ⟨⟨u₁.st.gens, u₁.st.drawn, u₁.st.os⟩, u₁.keep, u₁.size⟩
   have k1 := Keep.push s₁.heap { cls := .type "list", data := .seq (List.toArray (ns.map fun x => Value.int (x.1 : Int) x.2)) }
   have k2 := Keep.push (s₁.heap.push { cls := .type "list", data := .seq (List.toArray (ns.map fun x => Value.int (x.1 : Int) x.2)) }) { cls := .type "dict", data := .dict #[] }
   have k3 := Keep.push ((s₁.heap.push { cls := .type "list", data := .seq (List.toArray (ns.map fun x => Value.int (x.1 : Int) x.2)) }).push { cls := .type "dict", data := .dict #[] }) { cls := .type "tuple", data := .seq [Value.none].toArray }
   have hz3 : s₁.heap.objs.size ≤ (((s₁.heap.push { cls := .type "list", data := .seq (List.toArray (ns.map fun x => Value.int (x.1 : Int) x.2)) }).push { cls := .type "dict", data := .dict #[] }).push { cls := .type "tuple", data := .seq [Value.none].toArray }).objs.size := by
     rw [Heap.size_push, Heap.size_push, Heap.size_push]; lia
   have U2 : Up s₁ s₂ := ⟨⟨u₂.st.gens, u₂.st.drawn, u₂.st.os⟩, fun b o e => u₂.keep _ _ (k3 _ _ (k2 _ _ (k1 _ _ e))), Nat.le_trans hz3 u₂.size⟩
   exact h a s₂ (U1.trans U2) (Nat.le_trans U1.size (Nat.le_trans hz3 ha)) hp
end
noncomputable def hx (i : Nat) : PySem.Str := ⟨#[61] ++ (let d := fun n : Nat => if n < 10 then 48 + n else 55 + n; #[d (i / 16), d (i % 16)])⟩
theorem pf_all (t u : Tok) : (List.range 256).map (fun i : Nat => Builtin.Str.percentFormat (.str (Str.ofString "=%02X") t) (Str.ofString "=%02X") (.int (i : Int) u)) = (List.range 256).map (fun i => (do let v ← mkStr (hx i); ret v)) := by kernel_rfl
theorem pf_at {i : Nat} (hi : i < 256) (t u : Tok) : Builtin.Str.percentFormat (.str (Str.ofString "=%02X") t) (Str.ofString "=%02X") (.int (i : Int) u) = (do let v ← mkStr (hx i); ret v) := by
 have e := congrArg (fun l => l[i]?) (pf_all t u)
 simp only [List.getElem?_map, List.getElem?_range hi, Option.map_some] at e
 exact Option.some.inj e
section
variable {prog : Program} {w : World} {A : Around} {E : Value → Shared → Prop} {s : Shared}
theorem hexW {i : Nat} {t u : Tok} {Q : Value → Shared → Prop} (hi : i < 256) (h : ∀ t' k, Q (.str (hx i) t') { s with toks := k }) : wpAny (model prog w) A (binaryOp .Mod (.str (Str.ofString "=%02X") t) (.int (i : Int) u)) Q E s := by
 have hl : (i : Int).natAbs.log2 < 1920 := by
   refine Nat.lt_of_le_of_lt (Nat.log2_le_self _) ?_
   rw [Int.natAbs_natCast]
   lia
 refine KPc.mod_lit rfl hl (fun _ _ => .of_wp fun prog w A R s hR => ?_) h
 rw [KPc.entry_is, pf_at hi]
 refine wpAny_bind (wpAny_mkStr (wpAny_pure ⟨_, rfl, hR _ _⟩) ?_)
 have e : (hx i).cps.size = 3 := rfl
 exact Nat.le_trans (Nat.le_of_eq e) (by decide)
end
structure BN (h : Heap) (mb : PySem.Str → Option Value) : Prop where
 ns : h.Ns builtinsNs mb
 bi : ∀ x : PySem.Str, x ≠ "__name__" → mb x = bootBuiltins x
section
variable {prog : Program} {w : World} {A : Around} {E : Value → Shared → Prop} {s s' : Shared} {c P fr bm : Addr} {m mb : PySem.Str → Option Value} {ps : Array Value}
theorem TS.bn (X : TS s s' c P m ps) (B : BN s.heap mb) : BN s'.heap mb :=
 ⟨B.ns.at fun o e => X.keep _ _ (by decide) e, B.bi⟩
theorem t_bi {x : PySem.Str} {v : Value} {pos : Pos} {Q : Value → Shared → Prop} (X : TS s s' c P m ps) (B : BN s.heap mb) (hk : loadName (envM c fr) x = loadGlobal (envM c fr) x) (hd : (x == ("__debug__" : Str)) = false) (hn : x ≠ "__name__") (hm : m x = none) (hv : bootBuiltins x = some v) (h : Q v s') :
   wpAny (model prog w) A (eval (.Name x pos) (envM c fr)) Q E s' := by
 refine wpAny_Name ?_ hd
 rw [hk]
 exact loadGlobal_builtin X.ns.ns hm (X.bn B).ns ((B.bi x hn).trans hv) h
theorem t_hexmap {p1 p2 p3 p4 p5 p6 p7 p9 : Pos} {Q : Value → Shared → Prop} (X : TS s s' c P m ps) (B : BN s.heap mb) (hh : A.handled = none) (hm : m (Str.ofString "range") = none)
   (h : ∀ D vs s₁, Up s' s₁ → s'.heap.objs.size ≤ D → s₁.heap.PlainList D (List.toArray vs) → vs.length = 256 → (∀ i, i < 256 → ∃ t, vs[i]? = some (.str (hx i) t)) → Q (.ref D) s₁) :
   wpAny (model prog w) A (eval (.ListComp (.BinOp (.Constant (.str (Str.ofString "=%02X")) 0 p1) .Mod (.Name (Str.ofString "c") p2) p3) [⟨.Name (Str.ofString "c") p4, .Call (.Name (Str.ofString "range") p5) [.Constant (.int 256) 0 p6] [] p7, [], 0⟩]
     { kind := .function, names := [(Str.ofString ".0", .local), (Str.ofString "c", .local)], isGenerator := false, isCoroutine := false } p9) (envM c fr)) Q E s' := by
 exists ListComp_M (β := PySem.Str) (by trivial) (by decide) (by trivial) (by decide) (by trivial) (fun _ => (by trivial)) ?_
 exists wpAny_Call_NameR ?_
 exists t_bi X B (by trivial) (by trivial) (by decide) hm PyProof.Rows.boot_range ?_
 exists cw_type (by trivial) ?_
 exists sp_more (by trivial) ?_
 exists wpAny_Constant_int ?_
 exists spliced_none ?_
 exists range_one fun r s₁ t₁ t₂ t₃ u₁ hr => ?_
 have hr' : IsRange s₁.heap r 0 ((256 : Nat) : Int) 1 t₁ t₂ t₃ := hr
 have u₁' : Up s' s₁ := ⟨⟨u₁.st.gens, u₁.st.drawn, u₁.st.os⟩, u₁.keep, u₁.size⟩
 exists comp_range (R' := RS) (f := hx) (k := 256) hh hr' (small_nat (by decide)) rangeSize_nat (by rw [sizeLine_eq]; decide) ?_ ?_
 · intro i hi t' C s₂ m₂ E' u₂ hC hn hx
   exists wpAny_BinOp ?_
   exists wpAny_Constant_str ?_
   exists c_loc hn (by trivial) (by trivial) (by trivial) hx ?_
   rw [Int.zero_add]
   exact hexW hi fun t k => ⟨(Up.toks _).trans (Up.toks _), _, rfl⟩
 · intro v s₂ u₂ zzM109_41_3
   refine el_EEAAA zzM109_41_3 ?_; clear zzM109_41_3; intro D vs zz0 hD hl hp
   obtain rfl := zz0
   refine h D vs s₂ (u₁'.trans u₂) (Nat.le_trans u₁'.size hD) hl (by rw [Paired.length hp, List.length_map, List.length_range]) fun i hi => ?_
   have e : ((List.range 256).map hx)[i]? = some (hx i) := by rw [List.getElem?_map, List.getElem?_range hi]; rfl
   refine el_EAE (Paired.get hp e) ?_; intro v hv t zz1
   obtain rfl := zz1
   exact ⟨t, hv⟩
end
noncomputable def Over (l : List Nat) (vs vs' : List Value) : Prop := vs'.length = vs.length ∧ ∀ i, i < vs.length → (i ∈ l → ∃ t, vs'[i]? = some (.str (sW [i]) t)) ∧ (i ∉ l → vs'[i]? = vs[i]?)
theorem Over.nil (vs : List Value) : Over [] vs vs := ⟨rfl, fun _ _ => ⟨fun h => (nomatch h), fun _ => rfl⟩⟩
theorem Over.set {l : List Nat} {vs vs' : List Value} {k : Nat} {t : Tok} (x : Over l vs vs') : Over (l ++ [k]) vs (vs'.set k (.str (sW [k]) t)) := by
 refine ⟨by rw [List.length_set]; exact x.1, fun i hi => ?_⟩
 refine el_A (x.2 i hi) ?_; intro h1 h2
 by_cases e : k = i
 · subst e
   refine ⟨fun _ => ⟨t, ?_⟩, fun q => absurd (List.mem_append_right _ (.head _)) q⟩
   rw [List.getElem?_set_self (by rw [x.1]; exact hi)]
 · rw [List.getElem?_set_ne e]
   refine ⟨fun q => h1 ?_, fun q => h2 fun q' => q (List.mem_append_left _ q')⟩
   rcases List.mem_append.mp q with q | q
   · exact q
   · exact absurd (List.mem_singleton.mp q).symm e
section
variable {prog : Program} {w : World} {A : Around} {E : Value → Shared → Prop} {s s' : Shared} {c P fr bm : Addr} {m mb : PySem.Str → Option Value} {ps : Array Value}
theorem TS.turn (X : TS s s' c P m ps) {N : List Addr} {s'' : Shared} (st : Sm s' s'') (k : KeepNot N s'.heap s''.heap) (hN : ∀ b ∈ N, s.heap.objs.size ≤ b) (hc : c ∉ N) (hP : P ∉ N) (hlt : mainGlobals < s.heap.objs.size) : TS s s'' c P m ps := by
 have no : ∀ b, b < s.heap.objs.size → b ∉ N := fun b hb q => absurd hb (Nat.not_lt.mpr (hN b q))
 have hT := X.code.on k hc hP
 exact ⟨X.st.trans st, fun b o hb e => k b o (no b (Heap.lt_size e)) (X.keep b o hb e), Nat.le_trans X.pz (Nat.le_of_lt (Heap.lt_size hT.2.2)), X.ns.at fun o e => k _ o (no _ hlt) e, hT, X.cz, X.pz⟩
theorem t_setchr {x : PySem.Str} {p1 p2 p3 p4 p5 p6 p7 : Pos} {k : Nat} {tk : Tok} {L : Addr} {vs : List Value} {Q : Flow → Shared → Prop} (X : TS s s' c P m ps) (B : BN s.heap mb) (hx : loadName (envM c fr) x = loadGlobal (envM c fr) x) (hd : (x == ("__debug__" : Str)) = false) (hL : m x = some (.ref L)) (hm : m (Str.ofString "chr") = none) (hc : m (Str.ofString "c") = some (.int (k : Int) tk))
   (hl : s'.heap.IsList L (List.toArray vs)) (hk : k < 256) (hz : vs.length = 256) (hlt : mainGlobals < s.heap.objs.size) (hLs : s.heap.objs.size ≤ L) (hcL : c ≠ L) (hPL : P ≠ L)
   (h : ∀ s₁ t, TS s s₁ c P m ps → KeepNot [L] s'.heap s₁.heap → s₁.heap.IsList L (List.toArray (vs.set k (.str (sW [k]) t))) → Q .next s₁) :
   wpAny (model prog w) A (exec (.Assign [.Subscript (.Name x p1) (.Name (Str.ofString "c") p2) p3] (.Call (.Name (Str.ofString "chr") p4) [.Name (Str.ofString "c") p5] [] p6) p7) (envM c fr)) Q E s' := by
 exists wpAny_Assign_Subscript ?_ (by trivial)
 exists wpAny_Call_NameR ?_
 exists t_bi X B (by trivial) (by trivial) (by decide) hm PyProof.Rows.bootS_chr ?_
 exists cw_bi (by trivial) ?_
 exists sp_more (by trivial) ?_
 exists t_name X (by trivial) (by trivial) hc ?_
 exists spliced_none ?_
 exists PySem.P.chr_of_int (by rw [Bool.or_eq_false_iff]; exact ⟨decide_eq_false (by lia), decide_eq_false (by lia)⟩) ?_
 have X₁ := X.up (Up.toks (s := s') (s'.toks + 1))
 exists t_name X₁ hx hd hL ?_
 exists t_name X₁ (by trivial) (by trivial) hc ?_
 exists wpAny_setItem_list hl (Int.natCast_nonneg _) (by lia) (by rw [List.size_toArray, hz]; lia) fun h' hl' hs => ?_
 rw [Int.toNat_natCast] at hl'
 have kk : KeepNot [L] s'.heap h' := fun b o hb e => (hs.2 b (fun q => hb (List.mem_singleton.mpr q))).trans e
 refine h _ s'.toks (X.turn ⟨rfl, rfl, rfl⟩ kk (fun b hb => by rw [List.mem_singleton.mp hb]; exact hLs) (fun q => hcL (List.mem_singleton.mp q)) (fun q => hPL (List.mem_singleton.mp q)) hlt) kk ?_
 rw [List.setIfInBounds_toArray] at hl'
 exact hl'
theorem t_chars {x : PySem.Str} {px p1 p2 p3 p4 p5 p6 p7 : Pos} {b : Array UInt8} {tb : Tok} {L : Addr} {vs : List Value} {R : Result → Shared → Prop} (X : TS s s' c P m ps) (B : BN s.heap mb) (hh : A.handled = none) (hx : loadName (envM c fr) x = loadGlobal (envM c fr) x) (hd : (x == ("__debug__" : Str)) = false) (hxc : x ≠ Str.ofString "c") (hL : m x = some (.ref L)) (hm : m (Str.ofString "chr") = none)
   (hl : s'.heap.IsList L (List.toArray vs)) (hz : vs.length = 256) (hlt : mainGlobals < s.heap.objs.size) (hLs : s.heap.objs.size ≤ L) (hcL : c ≠ L) (hPL : P ≠ L)
   (h : ∀ s₁ m₁ vs', TS s s₁ c P m₁ ps → KeepNot [mainGlobals, L] s'.heap s₁.heap → (∀ y, y ≠ Str.ofString "c" → m₁ y = m y) → (0 < b.size → ∃ v, m₁ (Str.ofString "c") = some v) → s₁.heap.IsList L (List.toArray vs') → Over (b.toList.map (·.toNat)) vs vs' → R (.ok .next) s₁) :
   wpAny (model prog w) A (pyIter (.bytes b tb)) (fun it s₂ => codeAny (model prog w) A (.forLoop (.Name (Str.ofString "c") px) it [.Assign [.Subscript (.Name x p1) (.Name (Str.ofString "c") p2) p3] (.Call (.Name (Str.ofString "chr") p4) [.Name (Str.ofString "c") p5] [] p6) p7] [] (envM c fr)) R s₂) E s' := by
 refine KBw.pyIter_bytes ?_
 have W := KBw.walks (prog := prog) (w := w) hh s'.heap.objs.size b tb
 have hI : s'.heap.objs.size ≠ L := fun q => by
   refine el_EA hl ?_; try clear hl; intro o e _
   exact Nat.lt_irrefl _ (Nat.lt_of_lt_of_le (Heap.lt_size e) (Nat.le_of_eq q))
 have old : ∀ q, q < s'.heap.objs.size → q ≠ s'.heap.objs.size := fun q h => Nat.ne_of_lt h
 have hcI : c ≠ s'.heap.objs.size := old _ (by obtain ⟨⟨_, _, e, _⟩, _⟩ := X.code.2; exact Heap.lt_size e)
 have hPI : P ≠ s'.heap.objs.size := old _ (Heap.lt_size X.code.2.2)
 have hgI : mainGlobals ≠ s'.heap.objs.size := old _ (Nat.lt_of_lt_of_le hlt X.size)
 have hgL : mainGlobals ≠ L := Nat.ne_of_lt (Nat.lt_of_lt_of_le hlt hLs)
 have u₀ : Up s' { s' with heap := s'.heap.push { cls := .type "bytes_iterator", data := .fields #[.bytes b tb, .int 0 0] } } := Up.push _ _
 refine codeAny_forLoop (fun n s₁ => ∃ i m₁ vs₁, n = b.size + 1 - i ∧ i ≤ b.size ∧ TS s s₁ c P m₁ ps ∧ KBw.IsBytesIter s₁.heap s'.heap.objs.size b tb i ∧ KeepNot [mainGlobals, L] s'.heap s₁.heap ∧ (∀ y, y ≠ Str.ofString "c" → m₁ y = m y) ∧ (0 < i → ∃ v, m₁ (Str.ofString "c") = some v) ∧
   s₁.heap.IsList L (List.toArray vs₁) ∧ Over ((b.toList.take i).map (·.toNat)) vs vs₁) ?_ (b.size + 1)
   ⟨0, m, vs, rfl, Nat.zero_le _, X.up u₀, ⟨_, Heap.get?_push_size _ rfl, rfl, rfl⟩, fun b o _ e => u₀.keep _ _ e, fun _ _ => rfl, fun q => absurd q (Nat.lt_irrefl _), isList_at hl fun o e => u₀.keep _ _ e, by rw [List.take_zero]; exact Over.nil vs⟩
 intro n s₁ zzM110_69_2
 refine el_EEEAAAAAAAA zzM110_69_2 ?_; clear zzM110_69_2; intro i m₁ vs₁ zz0 hi X₁ hit k₁ hm₁ hv₁ hl₁ ho
 obtain rfl := zz0
 by_cases hlt' : i < b.size
 · refine W.item i _ _ _ hlt' hit fun v h₂ tk₂ hPv hit₂ hk₂ => ?_
   refine el_EEA hPv ?_; try clear hPv; intro d u hd' zz1
   obtain rfl := zz1
   refine wpAny_assign_Name ?_
   have X₂ : TS s { s₁ with heap := h₂, toks := tk₂ } c P m₁ ps := X₁.turn ⟨rfl, rfl, rfl⟩ hk₂ (fun b hb => by rw [List.mem_singleton.mp hb]; exact X.size) (fun q => hcI (List.mem_singleton.mp q)) (fun q => hPI (List.mem_singleton.mp q)) hlt
   refine ts_store X₂ hlt (by trivial) fun s₃ X₃ k₃ st₃ => ?_
   refine wpAny_execs_cons ?_
   have hl₂ : h₂.IsList L (List.toArray vs₁) := isList_at hl₁ fun o e => hk₂ _ _ (fun q => hI (List.mem_singleton.mp q).symm) e
   have hit₃ : KBw.IsBytesIter s₃.heap s'.heap.objs.size b tb (i + 1) := let ⟨o, e, r⟩ := hit₂; ⟨o, k₃ _ _ (fun q => hgI (List.mem_singleton.mp q).symm) e, r⟩
   have hz₁ : vs₁.length = 256 := ho.1.trans hz
   refine t_setchr X₃ B hx hd ((if_neg hxc).trans ((hm₁ _ hxc).trans hL)) ((if_neg (by decide)).trans ((hm₁ _ (by decide)).trans hm)) (if_pos rfl) (isList_at hl₂ fun o e => k₃ _ _ (fun q => hgL (List.mem_singleton.mp q).symm) e) d.toNat_lt hz₁ hlt hLs hcL hPL fun s₄ t X₄ k₄ hl₄ => ?_
   refine wpAny_execs_nil ?_
   have hit₄ : KBw.IsBytesIter s₄.heap s'.heap.objs.size b tb (i + 1) := let ⟨o, e, r⟩ := hit₃; ⟨o, k₄ _ _ (fun q => hI (List.mem_singleton.mp q)) e, r⟩
   refine ⟨b.size + 1 - (i + 1), by lia, i + 1, _, _, rfl, hlt', X₄, hit₄, fun q o hq e => ?_, fun y hy => (if_neg hy).trans (hm₁ y hy), fun _ => ⟨_, if_pos rfl⟩, hl₄, ?_⟩
   · refine k₄ q o (fun z => hq (.tail _ (by rw [List.mem_singleton.mp z]; exact .head _))) (k₃ q o (fun z => hq (by rw [List.mem_singleton.mp z]; exact .head _)) (hk₂ q o (fun z => ?_) (k₁ q o hq e)))
     exact absurd (Heap.lt_size e) (by rw [List.mem_singleton.mp z]; exact Nat.lt_irrefl _)
   · have e : b.toList.take (i + 1) = b.toList.take i ++ [d] := by
       rw [List.take_add_one, Array.getElem?_toList, hd']; rfl
     rw [e, List.map_append]
     exact ho.set
 · obtain rfl : i = b.size := Nat.le_antisymm hi (Nat.not_lt.mp hlt')
   refine W.done _ _ _ hit fun h₂ tk₂ hk₂ => ?_
   have X₂ : TS s { s₁ with heap := h₂, toks := tk₂ } c P m₁ ps := X₁.turn ⟨rfl, rfl, rfl⟩ hk₂ (fun b hb => by rw [List.mem_singleton.mp hb]; exact X.size) (fun q => hcI (List.mem_singleton.mp q)) (fun q => hPI (List.mem_singleton.mp q)) hlt
   refine wpAny_execs_nil ?_
   refine h _ m₁ vs₁ X₂ (fun q o hq e => hk₂ q o (fun z => ?_) (k₁ q o hq e)) hm₁ hv₁ (isList_at hl₁ fun o e => hk₂ _ _ (fun q => hI (List.mem_singleton.mp q).symm) e) ?_
   · exact absurd (Heap.lt_size e) (by rw [List.mem_singleton.mp z]; exact Nat.lt_irrefl _)
   · have e : b.toList.take b.size = b.toList := List.take_of_length_le (by simp)
     rw [e] at ho
     exact ho
end
noncomputable abbrev lowS : PySem.Str := Str.ofString "abcdefghijklmnopqrstuvwxyz"
noncomputable abbrev upS : PySem.Str := Str.ofString "ABCDEFGHIJKLMNOPQRSTUVWXYZ"
noncomputable abbrev digS : PySem.Str := Str.ofString "0123456789"
noncomputable def bytesS (x : PySem.Str) : Array UInt8 := (x.cps.toList.map (·.toUInt8)).toArray
noncomputable def Enc (x : PySem.Str) : Prop := ∀ t u, Builtin.«str.encode» ⟨[.str x t, .str (Str.ofString "ascii") u], []⟩ = (do let v ← mkBytes (bytesS x); ret v)
theorem enc_dig : Enc digS := fun _ _ => by kernel_rfl
theorem enc_let : Enc (lowS ++ upS) := fun _ _ => by kernel_rfl
section
variable {prog : Program} {w : World} {A : Around} {E : Value → Shared → Prop} {s s' : Shared} {c P fr bm : Addr} {m mb : PySem.Str → Option Value} {ps : Array Value}
theorem t_encode {x y : PySem.Str} {p1 p2 p3 p4 : Pos} {t : Tok} {Q : Value → Shared → Prop} (X : TS s s' c P m ps) (hk : loadName (envM c fr) x = loadGlobal (envM c fr) x) (hd : (x == ("__debug__" : Str)) = false) (hv : m x = some (.str y t)) (he : Enc y) (hz : y.cps.size ≤ 1000) (hline : (p2.endLine == p4.line) = true)
   (hbase : attributeBase (.Name x p1) (Str.ofString "encode") (envM c fr) (eval (.Name x p1) (envM c fr)) = eval (.Name x p1) (envM c fr))
   (h : ∀ t' s₁, Up s' s₁ → Q (.bytes (bytesS y) t') s₁) :
   wpAny (model prog w) A (eval (.Call (.Attribute (.Name x p1) (Str.ofString "encode") p2) [.Constant (.str (Str.ofString "ascii")) 0 p3] [] p4) (envM c fr)) Q E s' := by
 exists meth1 hbase (by trivial) hline PySem.F.plainAttrs_str PySem.F.slot_str_encode PySem.F.type_str_encode ?_
 exists t_name X hk hd hv ?_
 exists ⟨typeIs_str _ _ _, str_none, ?_⟩
 exists wpAny_Constant_str ?_
 exists wpAny_call_entry PySem.F.slot_str_encode (typeIs_str _ _ _) PySem.F.entry_str_encode ?_ (PySem.F.args_str_encode_2 _ _)
 rw [he]
 refine wpAny_bind (wpAny_mkBytes (wpAny_pure ⟨_, rfl, h _ _ ((Up.toks _).trans (Up.toks _))⟩) ?_)
 have e : (bytesS y).size = y.cps.size := by simp [bytesS]
 rw [e]
 exact Nat.le_trans hz (by decide)
theorem t_signs {p1 p2 p3 p4 p5 p6 p7 p8 p9 p10 p11 : Pos} {t u : Tok} {Q : Value → Shared → Prop} (X : TS s s' c P m ps) (hx : m (Str.ofString "ascii_letters") = some (.str (lowS ++ upS) t)) (hy : m (Str.ofString "digits") = some (.str digS u))
   (l1 : (p3.endLine == p5.line) = true) (l2 : (p7.endLine == p9.line) = true)
   (h : ∀ t' s₁, Up s' s₁ → Q (.bytes (#[45, 33, 42, 43, 47] ++ bytesS (lowS ++ upS) ++ bytesS digS) t') s₁) :
   wpAny (model prog w) A (eval (.BinOp (.BinOp (.Constant (.bytes [45, 33, 42, 43, 47]) 0 p1) .Add (.Call (.Attribute (.Name (Str.ofString "ascii_letters") p2) (Str.ofString "encode") p3) [.Constant (.str (Str.ofString "ascii")) 0 p4] [] p5) p10) .Add
     (.Call (.Attribute (.Name (Str.ofString "digits") p6) (Str.ofString "encode") p7) [.Constant (.str (Str.ofString "ascii")) 0 p8] [] p9) p11) (envM c fr)) Q E s' := by
 exists wpAny_BinOp ?_
 exists wpAny_BinOp ?_
 exists Constant_bytes ?_
 have u₁ : Up s' { s' with toks := s'.toks + 1 } := Up.toks _
 exists t_encode (X.up u₁) (by trivial) (by trivial) hx enc_let (by decide) l1 (by trivial) fun t₂ s₂ u₂ => ?_
 exists KBy.add_bytes (by decide) fun t₃ k₃ => ?_
 have u₃ : Up s₂ { s₂ with toks := k₃ } := Up.toks _
 exists t_encode (X.up ((u₁.trans u₂).trans u₃)) (by trivial) (by trivial) hy enc_dig (by decide) l2 (by trivial) fun t₄ s₄ u₄ => ?_
 exists KBy.add_bytes (by decide) fun t₅ k₅ => ?_
 exact h _ _ (((u₁.trans u₂).trans u₃).trans (u₄.trans (Up.toks _)))
theorem t_blank {x : PySem.Str} {p1 p2 p3 p4 p5 p6 p7 : Pos} {L : Addr} {vs : List Value} {Q : Flow → Shared → Prop} (X : TS s s' c P m ps) (B : BN s.heap mb) (hx : loadName (envM c fr) x = loadGlobal (envM c fr) x) (hd : (x == ("__debug__" : Str)) = false) (hL : m x = some (.ref L)) (hm : m (Str.ofString "ord") = none)
   (hl : s'.heap.IsList L (List.toArray vs)) (hz : vs.length = 256) (hlt : mainGlobals < s.heap.objs.size) (hLs : s.heap.objs.size ≤ L) (hcL : c ≠ L) (hPL : P ≠ L)
   (h : ∀ s₁ t, TS s s₁ c P m ps → KeepNot [L] s'.heap s₁.heap → s₁.heap.IsList L (List.toArray (vs.set 32 (.str (Str.ofString "_") t))) → Q .next s₁) :
   wpAny (model prog w) A (exec (.Assign [.Subscript (.Name x p1) (.Call (.Name (Str.ofString "ord") p2) [.Constant (.str (Str.ofString " ")) 0 p3] [] p4) p5] (.Constant (.str (Str.ofString "_")) 0 p6) p7) (envM c fr)) Q E s' := by
 exists wpAny_Assign_Subscript ?_ (by trivial)
 exists wpAny_Constant_str ?_
 have X₁ := X.up (Up.toks (s := s') (s'.toks + 1))
 exists t_name X₁ hx hd hL ?_
 exists wpAny_Call_NameR ?_
 exists t_bi X₁ B (by trivial) (by trivial) (by decide) hm PyProof.Rows.boot_ord ?_
 exists cw_bi (by trivial) ?_
 exists sp_more (by trivial) ?_
 exists wpAny_Constant_str ?_
 exists spliced_none ?_
 rw [show Str.ofString " " = ⟨#[32]⟩ from by decide +kernel]
 exists PySem.P.ord_of_char ?_
 exists wpAny_setItem_list hl (by decide) (by decide) (by rw [List.size_toArray, hz]; decide) fun h' hl' hs => ?_
 have kk : KeepNot [L] s'.heap h' := fun b o hb e => (hs.2 b (fun q => hb (List.mem_singleton.mpr q))).trans e
 refine h _ s'.toks (X.turn ⟨rfl, rfl, rfl⟩ kk (fun b hb => by rw [List.mem_singleton.mp hb]; exact hLs) (fun q => hcL (List.mem_singleton.mp q)) (fun q => hPL (List.mem_singleton.mp q)) hlt) kk ?_
 rw [List.setIfInBounds_toArray] at hl'
 exact hl'
theorem del_c : ∃ K : Bool → Sem Unit, deleteName (envM c fr) (Str.ofString "c") = (nsDel mainGlobals (Str.ofString "c") >>= K) ∧ K true = pure () := ⟨_, (by trivial), (by trivial)⟩
theorem t_del {x : PySem.Str} {p1 p2 : Pos} {v : Value} {Q : Flow → Shared → Prop} (X : TS s s' c P m ps) (hlt : mainGlobals < s.heap.objs.size) (hv : m x = some v) (hk : ∃ K : Bool → Sem Unit, deleteName (envM c fr) x = (nsDel mainGlobals x >>= K) ∧ K true = pure ())
   (h : ∀ s₁, TS s s₁ c P (fun y => if y = x then none else m y) ps → KeepNot [mainGlobals] s'.heap s₁.heap → Q .next s₁) :
   wpAny (model prog w) A (exec (.Delete [.Name x p1] p2) (envM c fr)) Q E s' := by
 exists wpAny_Delete ?_
 exists wpAny_deleteEach_cons ?_
 exists wpAny_delete_Name ?_
 unfold unbindName
 refine wpAny_bind (wpAny_point (wpAny_bind ?_))
 refine el_EA hk ?_; try clear hk; intro K e eK
 rw [e]
 refine wpAny_bind (wpAny_nsDel1 X.ns fun h' hn hs => ?_)
 rw [hv, Option.isSome_some, eK]
 refine wpAny_pure (wpAny_point ?_)
 exists wpAny_deleteEach_nil ?_
 have hc : c ≠ mainGlobals := Nat.ne_of_gt (Nat.lt_of_lt_of_le hlt X.cz)
 have hP : P ≠ mainGlobals := Nat.ne_of_gt (Nat.lt_of_lt_of_le hlt X.pz)
 have kk : KeepNot [mainGlobals] s'.heap h' := fun b o hb e => (hs.2 b (fun q => hb (List.mem_singleton.mpr q))).trans e
 exact h _ ⟨⟨X.st.gens, X.st.drawn, X.st.os⟩, fun b o hb e => kk b o hb (X.keep b o hb e), Nat.le_trans X.size (Nat.le_of_eq hs.1.symm), hn, X.code.on kk (fun q => hc (List.mem_singleton.mp q)) (fun q => hP (List.mem_singleton.mp q)), X.cz, X.pz⟩ kk
end
noncomputable def upL (l : List (PySem.Str × Option Value)) (m₀ : PySem.Str → Option Value) : PySem.Str → Option Value := fun y => match l.lookup y with
 | some v => v
 | none => m₀ y
theorem upL_cons {l : List (PySem.Str × Option Value)} {m₀ : PySem.Str → Option Value} {x : PySem.Str} {v : Option Value} : (fun y => if y = x then v else upL l m₀ y) = upL ((x, v) :: l) m₀ := by
 funext y
 unfold upL
 rw [List.lookup_cons]
 by_cases h : y = x
 · subst h; simp
 · rw [if_neg h, show (y == x) = false by simp [h]]
theorem upL_none {l : List (PySem.Str × Option Value)} {m₀ : PySem.Str → Option Value} {x : PySem.Str} (h : l.lookup x = none) : upL l m₀ x = m₀ x := by
 unfold upL
 rw [h]
theorem upL_some {l : List (PySem.Str × Option Value)} {m₀ : PySem.Str → Option Value} {x : PySem.Str} {v : Option Value} (h : l.lookup x = some v) : upL l m₀ x = v := by
 unfold upL
 rw [h]
noncomputable def Ln (n : Nat) (ps : Array Value) : Prop := ∃ l : List (Nat × Nat × Value), ps.toList = l.flatMap (fun q => [rawInt q.1, rawInt q.2.1, q.2.2]) ∧ ∀ q ∈ l, q.1 ≤ n
theorem Ln.nil : Ln 0 #[] := ⟨[], rfl, fun _ h => (nomatch h)⟩
theorem Ln.push {n : Nat} {ps : Array Value} {pos : Pos} {v : Value} (x : Ln n ps) (h : n < pos.line) : Ln pos.line (ps ++ #[rawInt pos.line, rawInt pos.col, v]) := by
 refine el_EA x ?_; try clear x; intro l e hl
 refine ⟨l ++ [(pos.line, pos.col, v)], by rw [Array.toList_append, e, List.flatMap_append]; rfl, fun q hq => ?_⟩
 rcases List.mem_append.mp hq with hq | hq
 · exact Nat.le_trans (hl q hq) (Nat.le_of_lt h)
 · rw [List.mem_singleton.mp hq]; exact Nat.le_refl _
theorem Ln.free {n : Nat} {ps : Array Value} {pos : Pos} (x : Ln n ps) (h : n < pos.line) : codeAmong pos ps.toList = none := by
 refine el_EA x ?_; try clear x; intro l e hl
 rw [e]
 clear e
 induction l with
 | nil => rfl
 | cons q l ih =>
   have h1 := hl q (.head _)
   show (if ((q.1 : Int) == (pos.line : Int) && (q.2.1 : Int) == (pos.col : Int)) = true then _ else codeAmong pos (l.flatMap _)) = none
   rw [if_neg (by
     rw [Bool.and_eq_true, beq_iff_eq]
     intro q'
     have := q'.1
     lia)]
   exact ih fun q hq => hl q (.tail _ hq)
theorem DefV.move {h h' : Heap} {f : Addr} {name : PySem.Str} {params : Arguments} {body : List Stmt} {scope : Scope} {dV : Value} {c P : Addr} (x : DefV h f name params body scope dV c P) (kf : ∀ o, h.get? f = some o → h'.get? f = some o) (kc : ∀ o, h.get? c = some o → h'.get? c = some o) (kP : ∀ o, h.get? P = some o → h'.get? P = some o) : DefV h' f name params body scope dV c P := by
 obtain ⟨zz0, zz1, zz2⟩ := x
 refine el_E zz0 ?_; clear zz0; intro pm e
 refine el_EEEEAA zz1 ?_; clear zz1; intro c0 o0 vs0 t0 e0 g0 r0
 refine el_AA zz2 ?_; clear zz2; intro zz3 zz4 g
 refine el_EEEEEEEEEEAAAAAAAAAA zz3 ?_; clear zz3; intro o vs file tf flags tg inF text tt op e1 e2 e3 e4 e5 e6 e7 e8 e9 e10 e11
 refine el_EEAAA zz4 ?_; clear zz4; intro o2 vs2 f1 f2 f3 f4
 cases e0
 exact ⟨⟨pm, kf _ e⟩, ⟨_, o0, vs0, t0, rfl, kc _ g0, r0⟩, ⟨⟨o, vs, file, tf, flags, tg, inF, text, tt, op, kc _ e1, e2, e3, e4, e5, e6, e7, kP _ e8, e9, e10, e11⟩, ⟨o2, vs2, kc _ f1, f2, f3, f4⟩, kP _ g⟩⟩
noncomputable abbrev Kn (n : Nat) (P : Addr) (h h' : Heap) : Prop := ∀ b o, b < n → b ∉ [mainGlobals, P] → h.get? b = some o → h'.get? b = some o
structure TK (s s' : Shared) (c P : Addr) (l : List (PySem.Str × Option Value)) (n z : Nat) (K : Heap → Prop) : Prop where
 ts : ∃ ps, TS s s' c P (upL l (s.heap.nsMap mainGlobals)) ps ∧ Ln n ps
 k : K s'.heap
 fr : ∀ h h', Kn z P h h' → K h → K h'
 lo : z ≤ s'.heap.objs.size
noncomputable abbrev noNames : List String := ["range", "len", "ord", "chr", "int", "sorted", "iter", "bytes", "min", "str", "RuntimeError", "StopIteration", "next", "TypeError", "object"]
structure TW (s : Shared) (bm : Addr) (mb : PySem.Str → Option Value) : Prop where
 lt : mainGlobals < s.heap.objs.size
 mo : BM s bm
 bn : BN s.heap mb
 nm : s.heap.nsMap mainGlobals (Str.ofString "__builtins__") = some (.ref bm)
 no : ∀ x ∈ noNames, s.heap.nsMap mainGlobals (Str.ofString x) = none
 sys : sysModules < s.heap.objs.size
noncomputable abbrev atB (k : Nat) : Stmt := modB.getD k (.Pass default)
theorem modB_len : modB.length = 37 := by kernel_rfl
section
variable {prog : Program} {w : World} {A : Around} {E : Value → Shared → Prop} {s s' : Shared} {c P fr bm : Addr} {mb : PySem.Str → Option Value} {l : List (PySem.Str × Option Value)} {n z : Nat} {K : Heap → Prop}
theorem k_cons {k : Nat} {Q : Flow → Shared → Prop} (hk : k < 37) (h : wpAny (model prog w) A (exec (atB k) (envM c fr)) (fun f s₁ => f = .next ∧ wpAny (model prog w) A (execs (modB.drop (k + 1)) (envM c fr)) Q E s₁) E s') :
   wpAny (model prog w) A (execs (modB.drop k) (envM c fr)) Q E s' := by
 have hk' : k < modB.length := by rw [modB_len]; exact hk
 rw [List.drop_eq_getElem_cons hk']
 refine wpAny_execs_cons ?_
 have e : modB[k] = atB k := by unfold atB; rw [List.getD_eq_getElem?_getD, List.getElem?_eq_getElem hk']; rfl
 rw [e]
 refine wpAny_mono h (fun f s₁ H => ?_) fun _ _ e => e
 refine el_A H ?_; try clear H; intro zz5 H
 obtain rfl := zz5
 exact H
structure PlainDef (st : Stmt) (pos : Pos) : Prop where
 form : st = .FunctionDef (nmOf st) ⟨[], (psOf st).args, none, [], [], none, []⟩ (bdOf st) [] none [] (scOf st) none (nmOf st) pos
 ann : ∀ c fr, annotationsOf ((psOf st).args ++ [] ++ [] ++ [] ++ []) (envM c fr) = []
 cl : ∀ c fr, closureFor (scOf st) (envM c fr) = pure []
 doc : docOf (bdOf st) = none
 q : ∀ c fr, qualnameIn (envM c fr) (nmOf st) (nmOf st) = nmOf st
 st : ∀ c fr v, storeName (envM c fr) (nmOf st) v = nsSet mainGlobals (nmOf st) v
theorem TK.up (Z : TK s s' c P l n z K) {s'' : Shared} (u : Up s' s'') : TK s s'' c P l n z K :=
 ⟨let ⟨ps, X, hl⟩ := Z.ts; ⟨ps, X.up u, hl⟩, Z.fr _ _ (fun b o _ _ e => u.keep b o e) Z.k, Z.fr, Nat.le_trans Z.lo u.size⟩
theorem k_def {st : Stmt} {pos : Pos} {Q : Flow → Shared → Prop} (Z : TK s s' c P l n z K) (T : TW s bm mb) (D : PlainDef st pos) (hn : n < pos.line) (hb : l.lookup (Str.ofString "__builtins__") = none)
   (h : ∀ f c' P' s'', TK s s'' c P ((nmOf st, some (.ref f)) :: l) pos.line s''.heap.objs.size (fun h => DefV h f (nmOf st) (psOf st) (bdOf st) (scOf st) .none c' P' ∧ K h) → s'.heap.objs.size ≤ P' → s'.heap.objs.size ≤ s''.heap.objs.size → Q .next s'') :
   wpAny (model prog w) A (exec st (envM c fr)) Q E s' := by
 refine el_EA (Z.ts) ?_; intro ps X hl
 have hps : psOf st = ⟨[], (psOf st).args, none, [], [], none, []⟩ := congrArg psOf D.form
 rw [D.form]
 refine top_def X T.lt T.mo ((upL_none hb).trans T.nm) (D.ann c fr) (D.cl c fr) (hl.free hn) D.doc (D.q c fr) (D.st c fr) fun f c' P' s'' X' kp hf hc' hP' hz hD => ?_
 rw [upL_cons] at X'
 have hPz : P < s'.heap.objs.size := Heap.lt_size X.code.2.2
 have hgz : mainGlobals < s'.heap.objs.size := Nat.lt_of_lt_of_le T.lt X.size
 have no : ∀ b : Addr, s'.heap.objs.size ≤ b → b ∉ [mainGlobals, P] := fun b hb q => by
   rcases List.mem_cons.mp q with rfl | q
   · exact absurd hgz (Nat.not_lt.mpr hb)
   · rw [List.mem_singleton.mp q] at hb; exact absurd hPz (Nat.not_lt.mpr hb)
 rw [← hps] at hD
 obtain ⟨zz6, cr, ct⟩ := id hD
 refine el_E zz6 ?_; clear zz6; intro pm e1
 have hf2 := Heap.lt_size e1
 have hc2 : c' < s''.heap.objs.size := by obtain ⟨⟨_, _, e, _⟩, _⟩ := ct.2; exact Heap.lt_size e
 have hP2 := Heap.lt_size ct.2.2
 refine h f c' P' s'' ⟨⟨_, X', hl.push hn⟩, ⟨hD, Z.fr _ _ (fun b o hb hn' e => kp b o hn' e) Z.k⟩, fun h h' kk H => ⟨?_, Z.fr _ _ (fun b o hb hn' e => kk b o (Nat.lt_of_lt_of_le hb (Nat.le_trans Z.lo hz)) hn' e) H.2⟩, Nat.le_refl _⟩ hP' hz
 exact H.1.move (fun o => kk _ o hf2 (no _ hf)) (fun o => kk _ o hc2 (no _ hc')) fun o => kk _ o hP2 (no _ hP')
end
section
variable {prog : Program} {w : World} {A : Around} {E : Value → Shared → Prop} {s s' : Shared} {c P fr bm : Addr} {mb : PySem.Str → Option Value} {l : List (PySem.Str × Option Value)} {n z : Nat} {K : Heap → Prop}
structure DefaultDef (st : Stmt) (d : Expr) (pos : Pos) : Prop where
 form : st = .FunctionDef (nmOf st) ⟨[], (psOf st).args, none, [], [], none, [d]⟩ (bdOf st) [] none [] (scOf st) none (nmOf st) pos
 ann : ∀ c fr, annotationsOf ((psOf st).args ++ [] ++ [] ++ [] ++ []) (envM c fr) = []
 cl : ∀ c fr, closureFor (scOf st) (envM c fr) = pure []
 doc : docOf (bdOf st) = none
 q : ∀ c fr, qualnameIn (envM c fr) (nmOf st) (nmOf st) = nmOf st
 st : ∀ c fr v, storeName (envM c fr) (nmOf st) v = nsSet mainGlobals (nmOf st) v
theorem k_defd {st : Stmt} {d : Expr} {pos : Pos} {Q : Flow → Shared → Prop} (Z : TK s s' c P l n z K) (T : TW s bm mb) (D : DefaultDef st d pos) (hn : n < pos.line) (hb : l.lookup (Str.ofString "__builtins__") = none)
   (hd : ∀ Q' : Value → Shared → Prop, (∀ v s₁, Up s' s₁ → Q' v s₁) → wpAny (model prog w) A (eval d (envM c fr)) Q' E s')
   (h : ∀ f c' P' T₀ v s'', TK s s'' c P ((nmOf st, some (.ref f)) :: l) pos.line s''.heap.objs.size (fun h => (DefV h f (nmOf st) (psOf st) (bdOf st) (scOf st) (.ref T₀) c' P' ∧ h.get? T₀ = some { cls := .type "tuple", data := .seq [v].toArray }) ∧ K h) → Q .next s'') :
   wpAny (model prog w) A (exec st (envM c fr)) Q E s' := by
 have hps : psOf st = ⟨[], (psOf st).args, none, [], [], none, [d]⟩ := congrArg psOf D.form
 rw [D.form]
 refine def_stmt_d (D.ann c fr) (hd _ fun v s₁ u₁ => ?_)
 rw [D.q c fr]
 have u₂ : Up s₁ { s₁ with heap := s₁.heap.push { cls := .type "tuple", data := .seq [v].toArray } } := Up.push _ _
 have hT₀ : (s₁.heap.push { cls := .type "tuple", data := .seq [v].toArray }).get? s₁.heap.objs.size = some { cls := .type "tuple", data := .seq [v].toArray } := Heap.get?_push_size _ rfl
 generalize ht : s₁.heap.objs.size = T₀ at hT₀ ⊢
 generalize hg : ({ s₁ with heap := s₁.heap.push { cls := .type "tuple", data := .seq [v].toArray } } : Shared) = s₂ at u₂ ⊢
 have hT₂ : s₂.heap.get? T₀ = some { cls := .type "tuple", data := .seq [v].toArray } := by rw [← hg]; exact hT₀
 have Z₂ := Z.up (u₁.trans u₂)
 refine el_EA (Z₂.ts) ?_; intro ps X hl
 have hlt := T.lt
 refine el_EAAA (T.mo.o) ?_; intro ob b1 b2 b3 b4
 refine ts_def X T.lt (D.cl c fr) rfl rfl (hl.free hn) D.doc ((upL_none hb).trans T.nm) b1 T.mo.b1 T.mo.b2 b2 b3 b4 fun f c' P' s₃ X₃ k₃ hf hc' hP' hD => ?_
 refine ts_store X₃ T.lt (D.st c fr _) fun s₄ X₄ k₄ st₄ => ?_
 rw [upL_cons] at X₄
 have hPz : P < s₂.heap.objs.size := Heap.lt_size X.code.2.2
 have hgz : mainGlobals < s₂.heap.objs.size := Nat.lt_of_lt_of_le T.lt X.size
 have no : ∀ b : Addr, s₂.heap.objs.size ≤ b → b ∉ [mainGlobals, P] := fun b hb q => by
   rcases List.mem_cons.mp q with rfl | q
   · exact absurd hgz (Nat.not_lt.mpr hb)
   · rw [List.mem_singleton.mp q] at hb; exact absurd hPz (Nat.not_lt.mpr hb)
 have no1 : ∀ b : Addr, b ∉ [mainGlobals, P] → b ∉ [mainGlobals] := fun b hb q => hb (by rw [List.mem_singleton.mp q]; exact .head _)
 have nP : ∀ b : Addr, b ∉ [mainGlobals, P] → b ∉ [P] := fun b hb q => hb (by rw [List.mem_singleton.mp q]; exact .tail _ (.head _))
 have kk : ∀ b o, b ∉ [mainGlobals, P] → s₂.heap.get? b = some o → s₄.heap.get? b = some o := fun b o hb e => k₄ b o (no1 b hb) (k₃ b o (nP b hb) e)
 have hT : T₀ ∉ [mainGlobals, P] := fun q => by
   rcases List.mem_cons.mp q with rfl | q
   · exact absurd (Nat.lt_of_lt_of_le T.lt X.size) (by
       refine el_EEEAA (X.ns) ?_; intro o es ep e1 e2 _
       rw [hT₂] at e1; cases e1; cases e2)
   · have := X.code.2.2
     rw [← List.mem_singleton.mp q, hT₂] at this; cases this
 have hD := hD.on k₄ (no1 _ (no _ hf)) (no1 _ (no _ hc')) (no1 _ (no _ hP'))
 rw [← hps] at hD
 obtain ⟨zz0, cr, ct⟩ := id hD
 refine el_E zz0 ?_; clear zz0; intro pm e1
 have hf2 := Heap.lt_size e1
 have hc2 : c' < s₄.heap.objs.size := by obtain ⟨⟨_, _, e, _⟩, _⟩ := ct.2; exact Heap.lt_size e
 have hP2 := Heap.lt_size ct.2.2
 have hT₄ := kk _ _ hT hT₂
 have hT2 := Heap.lt_size hT₄
 have hz : s₂.heap.objs.size ≤ s₄.heap.objs.size := Nat.le_trans hf (Nat.le_of_lt hf2)
 refine h f c' P' T₀ v s₄ ⟨⟨_, X₄, hl.push hn⟩, ⟨⟨hD, hT₄⟩, Z₂.fr _ _ (fun b o _ hn' e => kk b o hn' e) Z₂.k⟩, fun h h' kk' H => ⟨⟨?_, kk' _ _ hT2 hT H.1.2⟩, Z.fr _ _ (fun b o hb hn' e => kk' b o (Nat.lt_of_lt_of_le hb (Nat.le_trans Z₂.lo hz)) hn' e) H.2⟩, Nat.le_refl _⟩
 exact H.1.1.move (fun o => kk' _ o hf2 (no _ hf)) (fun o => kk' _ o hc2 (no _ hc')) fun o => kk' _ o hP2 (no _ hP')
theorem k_assign {x : PySem.Str} {px pos : Pos} {e : Expr} {Q : Flow → Shared → Prop} (Z : TK s s' c P l n z K) (hlt : mainGlobals < s.heap.objs.size) (hs : swapsWith e (some (.Name x px)) pos.line (envM c fr) = pure false) (hk : ∀ v, storeName (envM c fr) x v = nsSet mainGlobals x v)
   (h : wpAny (model prog w) A (eval e (envM c fr)) (fun v s₁ => Up s' s₁ ∧ ∀ s₂, TK s s₂ c P ((x, some v) :: l) n z K → KeepNot [mainGlobals] s₁.heap s₂.heap → Q .next s₂) E s') :
   wpAny (model prog w) A (exec (.Assign [.Name x px] e pos) (envM c fr)) Q E s' := by
 refine el_EA (Z.ts) ?_; intro ps X hl
 refine wpAny_Assign_Name (wpAny_mono h (fun v s₁ ⟨u, H⟩ => ?_) fun _ _ e => e) hs
 refine ts_storeZ (X.up u) hlt (hk v) fun s₂ X₂ k₂ _ hz => ?_
 rw [upL_cons] at X₂
 refine H s₂ ⟨⟨ps, X₂, hl⟩, Z.fr _ _ (fun b o _ hn e => k₂ b o (fun q => hn (by rw [List.mem_singleton.mp q]; exact .head _)) (u.keep b o e)) Z.k, Z.fr, ?_⟩ k₂
 rw [hz]
 exact Nat.le_trans Z.lo u.size
theorem TK.add (Z : TK s s' c P l n z K) {K' : Heap → Prop} (k : K' s'.heap) (f : ∀ h h', Kn s'.heap.objs.size P h h' → K' h → K' h') : TK s s' c P l n s'.heap.objs.size (fun h => K' h ∧ K h) :=
 ⟨Z.ts, ⟨k, Z.k⟩, fun h h' kk H => ⟨f h h' kk H.1, Z.fr _ _ (fun b o hb hn e => kk b o (Nat.lt_of_lt_of_le hb Z.lo) hn e) H.2⟩, Nat.le_refl _⟩
end
section
variable {prog : Program} {w : World} {A : Around} {E : Value → Shared → Prop} {s s' : Shared} {c P fr bm : Addr} {mb : PySem.Str → Option Value} {l : List (PySem.Str × Option Value)} {n z : Nat} {K : Heap → Prop}
theorem TS.list {m : PySem.Str → Option Value} {ps : Array Value} {L : Addr} {vs : Array Value} (X : TS s s' c P m ps) (hl : s'.heap.IsList L vs) : c ≠ L ∧ P ≠ L := by
 refine el_EAA hl ?_; try clear hl; intro o e hc _
 refine el_A (X.code.2) ?_; intro zz0 e2
 refine el_EEAA zz0 ?_; clear zz0; intro o1 vs1 e1 c1 _
 refine ⟨fun q => ?_, fun q => ?_⟩
 · rw [q, e] at e1; cases e1; rw [hc] at c1; exact absurd c1 (by simp)
 · rw [q, e] at e2; cases e2; cases hc
theorem k_for {x : PySem.Str} {px p1 p2 p3 p4 p5 p6 p7 pos : Pos} {iter : Expr} {b : Array UInt8} {L : Addr} {vs : List Value} {Q : Flow → Shared → Prop} (Z : TK s s' c P l n z K) (T : TW s bm mb) (hh : A.handled = none)
   (hx : loadName (envM c fr) x = loadGlobal (envM c fr) x) (hd : (x == ("__debug__" : Str)) = false) (hxc : x ≠ Str.ofString "c") (hL : l.lookup x = some (some (.ref L))) (hm : l.lookup (Str.ofString "chr") = none) (hf : ∀ x, foldedSetIterable iter (envM c fr) x = pure x)
   (hl : s'.heap.IsList L (List.toArray vs)) (hz : vs.length = 256) (hLs : s.heap.objs.size ≤ L) (hzL : z ≤ L) (hi : ∀ Q' : Value → Shared → Prop, (∀ t s₁, Up s' s₁ → Q' (.bytes b t) s₁) → wpAny (model prog w) A (eval iter (envM c fr)) Q' E s')
   (h : ∀ s₁ v vs', TK s s₁ c P ((Str.ofString "c", v) :: l) n z K → KeepNot [mainGlobals, L] s'.heap s₁.heap → (0 < b.size → ∃ u, v = some u) → s₁.heap.IsList L (List.toArray vs') → Over (b.toList.map (·.toNat)) vs vs' → Q .next s₁) :
   wpAny (model prog w) A (exec (.For (.Name (Str.ofString "c") px) iter [.Assign [.Subscript (.Name x p1) (.Name (Str.ofString "c") p2) p3] (.Call (.Name (Str.ofString "chr") p4) [.Name (Str.ofString "c") p5] [] p6) p7] [] pos) (envM c fr)) Q E s' := by
 refine wpAny_For (hi _ fun t s₁ u => ?_) hf
 refine el_EA ((Z.up u).ts) ?_; intro ps X hn
 have hl₁ := isList_at hl fun o e => u.keep _ _ e
 refine t_chars X T.bn hh hx hd hxc (upL_some hL) ((upL_none hm).trans (T.no "chr" (by decide))) hl₁ hz T.lt hLs (X.list hl₁).1 (X.list hl₁).2 fun s₂ m₂ vs' X₂ k₂ hm₂ hv hl₂ ho => ?_
 have em : m₂ = upL ((Str.ofString "c", m₂ (Str.ofString "c")) :: l) (s.heap.nsMap mainGlobals) := by
   rw [← upL_cons]
   funext y
   by_cases q : y = Str.ofString "c"
   · rw [if_pos q, q]
   · rw [if_neg q]; exact hm₂ y q
 rw [em] at X₂
 have hL₂ : L < s₂.heap.objs.size := by obtain ⟨o, e, _⟩ := hl₂; exact Heap.lt_size e
 refine h s₂ (m₂ (Str.ofString "c")) vs' ⟨⟨ps, X₂, hn⟩, (Z.up u).fr _ _ (fun b o hb hq e => k₂ b o (fun q => ?_) e) (Z.up u).k, Z.fr, Nat.le_trans hzL (Nat.le_of_lt hL₂)⟩ (fun b o hb e => k₂ b o hb (u.keep _ _ e)) hv hl₂ ho
 rcases List.mem_cons.mp q with rfl | q
 · exact hq (.head _)
 · rw [List.mem_singleton.mp q] at hb
   exact absurd hzL (Nat.not_le.mpr hb)
theorem k_blank {x : PySem.Str} {p1 p2 p3 p4 p5 p6 p7 : Pos} {L : Addr} {vs : List Value} {Q : Flow → Shared → Prop} (Z : TK s s' c P l n z K) (T : TW s bm mb) (hx : loadName (envM c fr) x = loadGlobal (envM c fr) x) (hd : (x == ("__debug__" : Str)) = false) (hL : l.lookup x = some (some (.ref L))) (hm : l.lookup (Str.ofString "ord") = none)
   (hl : s'.heap.IsList L (List.toArray vs)) (hz : vs.length = 256) (hLs : s.heap.objs.size ≤ L) (hzL : z ≤ L)
   (h : ∀ s₁ t, TK s s₁ c P l n z K → KeepNot [L] s'.heap s₁.heap → s₁.heap.IsList L (List.toArray (vs.set 32 (.str (Str.ofString "_") t))) → Q .next s₁) :
   wpAny (model prog w) A (exec (.Assign [.Subscript (.Name x p1) (.Call (.Name (Str.ofString "ord") p2) [.Constant (.str (Str.ofString " ")) 0 p3] [] p4) p5] (.Constant (.str (Str.ofString "_")) 0 p6) p7) (envM c fr)) Q E s' := by
 refine el_EA (Z.ts) ?_; intro ps X hn
 refine t_blank X T.bn hx hd (upL_some hL) ((upL_none hm).trans (T.no "ord" (by decide))) hl hz T.lt hLs (X.list hl).1 (X.list hl).2 fun s₂ t X₂ k₂ hl₂ => ?_
 have hL₂ : L < s₂.heap.objs.size := by obtain ⟨o, e, _⟩ := hl₂; exact Heap.lt_size e
 refine h s₂ t ⟨⟨ps, X₂, hn⟩, Z.fr _ _ (fun b o hb hq e => k₂ b o (fun q => ?_) e) Z.k, Z.fr, Nat.le_trans hzL (Nat.le_of_lt hL₂)⟩ k₂ hl₂
 rw [List.mem_singleton.mp q] at hb
 exact absurd hzL (Nat.not_le.mpr hb)
theorem k_del {x : PySem.Str} {p1 p2 : Pos} {v : Value} {Q : Flow → Shared → Prop} (Z : TK s s' c P l n z K) (T : TW s bm mb) (hv : l.lookup x = some (some v)) (hk : ∃ K : Bool → Sem Unit, deleteName (envM c fr) x = (nsDel mainGlobals x >>= K) ∧ K true = pure ()) (hz : ∀ s₁ : Shared, KeepNot [mainGlobals] s'.heap s₁.heap → z ≤ s₁.heap.objs.size)
   (h : ∀ s₁, TK s s₁ c P ((x, none) :: l) n z K → KeepNot [mainGlobals] s'.heap s₁.heap → Q .next s₁) :
   wpAny (model prog w) A (exec (.Delete [.Name x p1] p2) (envM c fr)) Q E s' := by
 refine el_EA (Z.ts) ?_; intro ps X hn
 refine t_del X T.lt (upL_some hv) hk fun s₂ X₂ k₂ => ?_
 rw [upL_cons] at X₂
 exact h s₂ ⟨⟨ps, X₂, hn⟩, Z.fr _ _ (fun b o hb hq e => k₂ b o (fun q => hq (by rw [List.mem_singleton.mp q]; exact .head _)) e) Z.k, Z.fr, hz _ k₂⟩ k₂
end
theorem lkN {x k : PySem.Str} {v : Option Value} {l : List (PySem.Str × Option Value)} {r : Option (Option Value)} (h : (x == k) = false) (e : l.lookup x = r) : ((k, v) :: l).lookup x = r := by
 rw [List.lookup_cons, h]; exact e
theorem lk0 {x : PySem.Str} {v : Option Value} {l : List (PySem.Str × Option Value)} : ((x, v) :: l).lookup x = some v := by
 rw [List.lookup_cons, BEq.rfl]
noncomputable abbrev signsB : List Nat := ((#[45, 33, 42, 43, 47] : Array UInt8) ++ bytesS (lowS ++ upS) ++ bytesS digS).toList.map UInt8.toNat
theorem ring_of {vs vs₁ : List Value} {t : Tok} (o : Over signsB vs vs₁) (hz : vs.length = 256) (hv : ∀ i, i < 256 → ∃ t, vs[i]? = some (.str (hx i) t)) : ∀ c ∈ ring, ∃ tk, (vs₁.set 32 (.str (Str.ofString "_") t))[c]? = some (.str (sW (signOf c)) tk) := by
 have h32 : 32 < vs₁.length := by rw [o.1, hz]; decide
 have old : ∀ c, c ≠ 32 → c < 256 → c ∉ signsB → hx c = sW (signOf c) → ∃ tk, (vs₁.set 32 (.str (Str.ofString "_") t))[c]? = some (.str (sW (signOf c)) tk) := fun c h1 h2 h3 h4 => by
   refine el_E (hv c h2) ?_; intro u hu
   exact ⟨u, by rw [List.getElem?_set_ne (Ne.symm h1), (o.2 c (by rw [hz]; exact h2)).2 h3, hu, h4]⟩
 have new : ∀ c, c ≠ 32 → c < 256 → c ∈ signsB → [c] = signOf c → ∃ tk, (vs₁.set 32 (.str (Str.ofString "_") t))[c]? = some (.str (sW (signOf c)) tk) := fun c h1 h2 h3 h4 => by
   refine el_E ((o.2 c (by rw [hz]; exact h2)).1 h3) ?_; intro u hu
   exact ⟨u, by rw [List.getElem?_set_ne (Ne.symm h1), hu, h4]⟩
 intro c hc
 simp only [ring, List.mem_cons, List.not_mem_nil, or_false] at hc
 rcases hc with rfl | rfl | rfl | rfl | rfl | rfl
 · exact new 97 (by decide) (by decide) (by decide +kernel) (by decide +kernel)
 · exact ⟨t, by rw [List.getElem?_set_self h32]; congr 2⟩
 · exact old 61 (by decide) (by decide) (by decide +kernel) (by decide +kernel)
 · exact old 233 (by decide) (by decide) (by decide +kernel) (by decide +kernel)
 · exact old 95 (by decide) (by decide) (by decide +kernel) (by decide +kernel)
 · exact new 66 (by decide) (by decide) (by decide +kernel) (by decide +kernel)
section
variable {prog : Program} {w : World} {A : Around} {E : Value → Shared → Prop} {s s' : Shared} {c P fr bm : Addr} {mb : PySem.Str → Option Value} {l : List (PySem.Str × Option Value)} {n z : Nat} {K : Heap → Prop}
theorem TK.ne (Z : TK s s' c P l n z K) {b : Addr} (hlt : mainGlobals < s.heap.objs.size) (h : s'.heap.objs.size ≤ b) : b ∉ [mainGlobals, P] := by
 refine el_EA (Z.ts) ?_; intro ps X _
 intro q
 rcases List.mem_cons.mp q with rfl | q
 · exact absurd (Nat.lt_of_lt_of_le hlt X.size) (Nat.not_lt.mpr h)
 · rw [List.mem_singleton.mp q] at h; exact absurd (Heap.lt_size X.code.2.2) (Nat.not_lt.mpr h)
theorem k_copy {x y : PySem.Str} {p1 p2 p3 p4 p5 : Pos} {D : Addr} {vs : List Value} {Q : Flow → Shared → Prop} (Z : TK s s' c P l n z K) (hlt : mainGlobals < s.heap.objs.size)
   (hs : swapsWith (.Subscript (.Name x p1) (.Slice none none none p2) p3) (some (.Name y p4)) p5.line (envM c fr) = pure false) (hk : ∀ v, storeName (envM c fr) y v = nsSet mainGlobals y v) (hx : loadName (envM c fr) x = loadGlobal (envM c fr) x) (hd : (x == ("__debug__" : Str)) = false)
   (hv : l.lookup x = some (some (.ref D))) (hl : s'.heap.IsList D (List.toArray vs)) (hz : vs.length = 256)
   (h : ∀ M s₁, TK s s₁ c P ((y, some (.ref M)) :: l) n z K → KeepNot [mainGlobals] s'.heap s₁.heap → s.heap.objs.size ≤ M → z ≤ M → M ∉ [mainGlobals, P] → (∀ b o, s'.heap.get? b = some o → b ≠ M) → s₁.heap.IsList M (List.toArray vs) → Q .next s₁) :
   wpAny (model prog w) A (exec (.Assign [.Name y p4] (.Subscript (.Name x p1) (.Slice none none none p2) p3) p5) (envM c fr)) Q E s' := by
 refine el_EA (Z.ts) ?_; intro ps X hn
 exists k_assign Z hlt hs hk ?_
 exists t_copy X hx hd (upL_some hv) hl (by rw [hz]; decide) fun M s₁ u₁ hM hl₁ => ⟨u₁, fun s₂ Z₂ k₂ => ?_⟩
 have hM' := Z.ne hlt hM
 exact h M s₂ Z₂ (fun b o hb e => k₂ b o hb (u₁.keep b o e)) (Nat.le_trans X.size hM) (Nat.le_trans Z.lo hM) hM' (fun b o e => Nat.ne_of_lt (Nat.lt_of_lt_of_le (Heap.lt_size e) hM)) (isList_at hl₁.isList fun o e => k₂ _ o (fun q => hM' (by rw [List.mem_singleton.mp q]; exact .head _)) e)
theorem k_str {x y : PySem.Str} {p1 p2 p3 : Pos} {Q : Flow → Shared → Prop} (Z : TK s s' c P l n z K) (hlt : mainGlobals < s.heap.objs.size) (hs : swapsWith (.Constant (.str y) 0 p2) (some (.Name x p1)) p3.line (envM c fr) = pure false) (hk : ∀ v, storeName (envM c fr) x v = nsSet mainGlobals x v)
   (h : ∀ t s₁, TK s s₁ c P ((x, some (.str y t)) :: l) n z K → KeepNot [mainGlobals] s'.heap s₁.heap → Q .next s₁) :
   wpAny (model prog w) A (exec (.Assign [.Name x p1] (.Constant (.str y) 0 p2) p3) (envM c fr)) Q E s' := by
 exists k_assign Z hlt hs hk ?_
 exists wpAny_Constant_str ?_
 exact ⟨Up.toks _, fun s₂ Z₂ k₂ => h _ s₂ Z₂ k₂⟩
theorem blockB {D : Addr} {vs : List Value} {Q : Flow → Shared → Prop} (Z : TK s s' c P l n z K) (T : TW s bm mb) (hh : A.handled = none) (hD : l.lookup (Str.ofString "_QUOPRI_MAP") = some (some (.ref D))) (hl : s'.heap.IsList D (List.toArray vs)) (hz : vs.length = 256) (hv : ∀ i, i < 256 → ∃ t, vs[i]? = some (.str (hx i) t))
   (hc : l.lookup (Str.ofString "chr") = none) (ho : l.lookup (Str.ofString "ord") = none) (hDn : D ∉ [mainGlobals, P])
   (h : ∀ t1 t2 t3 t4 t5 v1 v2 M M₂ vs₁ vs₂ s₁, TK s s₁ c P ((Str.ofString "c", v2) :: (Str.ofString "c", v1) :: (Str.ofString "__name__", some (.str (Str.ofString "cpy313.email.quoprimime") t5)) :: (Str.ofString "digits", some (.str digS t4)) :: (Str.ofString "ascii_letters", some (.str (lowS ++ upS) t3)) ::
     (Str.ofString "ascii_uppercase", some (.str upS t2)) :: (Str.ofString "ascii_lowercase", some (.str lowS t1)) :: (Str.ofString "_QUOPRI_BODY_MAP", some (.ref M₂)) :: (Str.ofString "_QUOPRI_HEADER_MAP", some (.ref M)) :: l) n s₁.heap.objs.size (fun h => (h.IsList M (List.toArray vs₁) ∧ h.IsList M₂ (List.toArray vs₂)) ∧ K h) →
     (∀ c ∈ ring, ∃ tk, vs₁[c]? = some (.str (sW (signOf c)) tk)) → vs₂.length = 256 → wpAny (model prog w) A (execs (modB.drop 17) (envM c fr)) Q E s₁) :
   wpAny (model prog w) A (execs (modB.drop 7) (envM c fr)) Q E s' := by
 exists k_cons (by decide) ?_
 with_unfolding_all show wpAny _ _ (exec (.Assign [.Name _ _] (.Subscript (.Name _ _) _ _) _) _) _ _ _
 exists k_copy Z T.lt (by trivial) (fun _ => (by trivial)) (by trivial) (by trivial) hD hl hz fun M s₁ Z₁ k₁ hMs hMz hMn hM₀ hl₁ => ⟨rfl, ?_⟩
 have hl' : s₁.heap.IsList D (List.toArray vs) := isList_at hl fun o e => k₁ _ o (fun q => hDn (by rw [List.mem_singleton.mp q]; exact .head _)) e
 exists k_cons (by decide) ?_
 with_unfolding_all show wpAny _ _ (exec (.Assign [.Name _ _] (.Subscript (.Name _ _) _ _) _) _) _ _ _
 exists k_copy Z₁ T.lt (by trivial) (fun _ => (by trivial)) (by trivial) (by trivial) (lkN (by decide) hD) hl' hz fun M₂ s₂ Z₂ k₂ hNs hNz hNn hN₀ hl₂ => ⟨rfl, ?_⟩
 have m1 : M ∉ [mainGlobals] := fun q => hMn (by rw [List.mem_singleton.mp q]; exact .head _)
 have n1 : M₂ ∉ [mainGlobals] := fun q => hNn (by rw [List.mem_singleton.mp q]; exact .head _)
 have hMN : M ≠ M₂ := by obtain ⟨o, e, _⟩ := hl₁; exact hN₀ M o e
 replace hl₁ : s₂.heap.IsList M (List.toArray vs) := isList_at hl₁ fun o e => k₂ _ o m1 e
 exists k_cons (by decide) ?_
 with_unfolding_all show wpAny _ _ (exec (.Assign [.Name _ _] (.Constant _ _ _) _) _) _ _ _
 exists k_str Z₂ T.lt (by trivial) (fun _ => (by trivial)) fun t1 s₃ Z₃ k₃ => ⟨rfl, ?_⟩
 exists k_cons (by decide) ?_
 with_unfolding_all show wpAny _ _ (exec (.Assign [.Name _ _] (.Constant _ _ _) _) _) _ _ _
 exists k_str Z₃ T.lt (by trivial) (fun _ => (by trivial)) fun t2 s₄ Z₄ k₄ => ⟨rfl, ?_⟩
 exists k_cons (by decide) ?_
 with_unfolding_all show wpAny _ _ (exec (.Assign [.Name _ _] (.BinOp (.Name _ _) _ (.Name _ _) _) _) _) _ _ _
 exists k_assign Z₄ T.lt (by trivial) (fun _ => (by trivial)) ?_
 refine el_EA (Z₄.ts) ?_; intro ps₄ X₄ hn₄
 exists t_add X₄ (by trivial) (by trivial) (by trivial) (by trivial) (upL_some (lkN (by decide) lk0)) (upL_some lk0) ?_
 exists PyProof.Rows.add_str (fun t3 tk3 => ⟨Up.toks _, fun s₅ Z₅ k₅ => ⟨rfl, ?_⟩⟩) (by decide)
 exists k_cons (by decide) ?_
 with_unfolding_all show wpAny _ _ (exec (.Assign [.Name _ _] (.Constant _ _ _) _) _) _ _ _
 exists k_str Z₅ T.lt (by trivial) (fun _ => (by trivial)) fun t4 s₆ Z₆ k₆ => ⟨rfl, ?_⟩
 exists k_cons (by decide) ?_
 with_unfolding_all show wpAny _ _ (exec (.Assign [.Name _ _] (.Constant _ _ _) _) _) _ _ _
 exists k_str Z₆ T.lt (by trivial) (fun _ => (by trivial)) fun t5 s₇ Z₇ k₇ => ⟨rfl, ?_⟩
 have k₂₇ : KeepNot [mainGlobals] s₂.heap s₇.heap := fun b o hb e => k₇ b o hb (k₆ b o hb (k₅ b o hb (k₄ b o hb (k₃ b o hb e))))
 replace hl₁ : s₇.heap.IsList M (List.toArray vs) := isList_at hl₁ fun o e => k₂₇ _ o m1 e
 replace hl₂ : s₇.heap.IsList M₂ (List.toArray vs) := isList_at hl₂ fun o e => k₂₇ _ o n1 e
 exists k_cons (by decide) ?_
 with_unfolding_all show wpAny _ _ (exec (.For (.Name _ _) (.BinOp (.BinOp _ _ _ _) _ _ _) _ _ _) _) _ _ _
 refine el_EA (Z₇.ts) ?_; intro ps₇ X₇ hn₇
 exists k_for (b := #[45, 33, 42, 43, 47] ++ bytesS (lowS ++ upS) ++ bytesS digS) Z₇ T hh (by trivial) (by trivial) (by decide) (lkN (by decide) (lkN (by decide) (lkN (by decide) (lkN (by decide) (lkN (by decide) (lkN (by decide) lk0)))))) (lkN (by decide) (lkN (by decide) (lkN (by decide) (lkN (by decide) (lkN (by decide) (lkN (by decide) (lkN (by decide) hc))))))) (fun _ => (by trivial)) hl₁ hz hMs hMz (fun Q' hQ' => t_signs X₇ (upL_some (lkN (by decide) (lkN (by decide) lk0))) (upL_some (lkN (by decide) lk0)) (by trivial) (by trivial) hQ') fun s₈ v1 vs₁ Z₈ k₈ _ hl₁ ov₁ => ⟨rfl, ?_⟩
 replace hl₂ : s₈.heap.IsList M₂ (List.toArray vs) := isList_at hl₂ fun o e => k₈ _ o (fun q => by
   rcases List.mem_cons.mp q with q | q
   · exact n1 (List.mem_singleton.mpr q)
   · exact hMN (List.mem_singleton.mp q).symm) e
 have hz₁ : vs₁.length = 256 := ov₁.1.trans hz
 exists k_cons (by decide) ?_
 with_unfolding_all show wpAny _ _ (exec (.Assign [.Subscript _ _ _] _ _) _) _ _ _
 exists k_blank Z₈ T (by trivial) (by trivial) (lkN (by decide) (lkN (by decide) (lkN (by decide) (lkN (by decide) (lkN (by decide) (lkN (by decide) (lkN (by decide) lk0))))))) (lkN (by decide) (lkN (by decide) (lkN (by decide) (lkN (by decide) (lkN (by decide) (lkN (by decide) (lkN (by decide) (lkN (by decide) ho)))))))) hl₁ hz₁ hMs hMz fun s₉ t Z₉ k₉ hl₁ => ⟨rfl, ?_⟩
 replace hl₂ : s₉.heap.IsList M₂ (List.toArray vs) := isList_at hl₂ fun o e => k₉ _ o (fun q => hMN (List.mem_singleton.mp q).symm) e
 exists k_cons (by decide) ?_
 with_unfolding_all show wpAny _ _ (exec (.For (.Name _ _) (.Constant (.bytes _) _ _) _ _ _) _) _ _ _
 exists k_for Z₉ T hh (by trivial) (by trivial) (by decide) (lkN (by decide) (lkN (by decide) (lkN (by decide) (lkN (by decide) (lkN (by decide) (lkN (by decide) lk0)))))) (lkN (by decide) (lkN (by decide) (lkN (by decide) (lkN (by decide) (lkN (by decide) (lkN (by decide) (lkN (by decide) (lkN (by decide) hc)))))))) (fun _ => (by trivial)) hl₂ hz hNs hNz (fun Q' hQ' => Constant_bytes (hQ' _ _ (Up.toks _))) fun s₁₀ v2 vs₂ Z₁₀ k₁₀ _ hl₂ ov₂ => ⟨rfl, ?_⟩
 replace hl₁ : s₁₀.heap.IsList M (List.toArray (vs₁.set 32 (.str (Str.ofString "_") t))) := isList_at hl₁ fun o e => k₁₀ _ o (fun q => by
   rcases List.mem_cons.mp q with q | q
   · exact m1 (List.mem_singleton.mpr q)
   · exact hMN (List.mem_singleton.mp q)) e
 refine h t1 t2 t3 t4 t5 v1 v2 M M₂ _ _ s₁₀ (Z₁₀.add (K' := fun h => h.IsList M (List.toArray (vs₁.set 32 (.str (Str.ofString "_") t))) ∧ h.IsList M₂ (List.toArray vs₂)) ⟨hl₁, hl₂⟩ fun h h' kk H => ?_) ?_ (ov₂.1.trans hz)
 · refine ⟨isList_at H.1 fun o e => kk _ o ?_ hMn e, isList_at H.2 fun o e => kk _ o ?_ hNn e⟩
   · obtain ⟨o, e, _⟩ := hl₁; exact Heap.lt_size e
   · obtain ⟨o, e, _⟩ := hl₂; exact Heap.lt_size e
 · exact ring_of ov₁ hz hv
end
section
variable {prog : Program} {w : World} {A : Around} {E : Value → Shared → Prop} {s s' : Shared} {c P fr bm : Addr} {mb : PySem.Str → Option Value} {l : List (PySem.Str × Option Value)} {n z : Nat} {K : Heap → Prop}
theorem blockE {M₂ : Addr} {vs : List Value} {Q : Flow → Shared → Prop} (Z : TK s s' c P l n z K) (T : TW s bm mb) (hh : A.handled = none) (hD : l.lookup (Str.ofString "_QUOPRI_BODY_MAP") = some (some (.ref M₂))) (hl : s'.heap.IsList M₂ (List.toArray vs)) (hz : vs.length = 256) (hc : l.lookup (Str.ofString "chr") = none)
   (h : ∀ v M₃ s₁, TK s s₁ c P ((Str.ofString "c", none) :: (Str.ofString "c", v) :: (Str.ofString "_QUOPRI_BODY_ENCODE_MAP", some (.ref M₃)) :: l) n z K → wpAny (model prog w) A (execs (modB.drop 22) (envM c fr)) Q E s₁) :
   wpAny (model prog w) A (execs (modB.drop 19) (envM c fr)) Q E s' := by
 exists k_cons (by decide) ?_
 with_unfolding_all show wpAny _ _ (exec (.Assign [.Name _ _] (.Subscript (.Name _ _) _ _) _) _) _ _ _
 exists k_copy Z T.lt (by trivial) (fun _ => (by trivial)) (by trivial) (by trivial) hD hl hz fun M s₁ Z₁ k₁ hMs hMz hMn hM₀ hl₁ => ⟨rfl, ?_⟩
 exists k_cons (by decide) ?_
 with_unfolding_all show wpAny _ _ (exec (.For (.Name _ _) (.Constant (.bytes _) _ _) _ _ _) _) _ _ _
 exists k_for Z₁ T hh (by trivial) (by trivial) (by decide) lk0 (lkN (by decide) hc) (fun _ => (by trivial)) hl₁ hz hMs hMz (fun Q' hQ' => Constant_bytes (hQ' _ _ (Up.toks _))) fun s₂ v vs₂ Z₂ k₂ hv hl₂ _ => ⟨rfl, ?_⟩
 refine el_E (hv (by decide)) ?_; intro u zz0
 obtain rfl := zz0
 exists k_cons (by decide) ?_
 with_unfolding_all show wpAny _ _ (exec (.Delete [.Name _ _] _) _) _ _ _
 exists k_del Z₂ T lk0 del_c (fun s₃ k₃ => ?_) fun s₃ Z₃ k₃ => ⟨rfl, h _ M s₃ Z₃⟩
 refine el_EA hl₂ ?_; try clear hl₂; intro o e _
 exact Nat.le_trans hMz (Nat.le_of_lt (Heap.lt_size (k₃ _ _ (fun q => hMn (by rw [List.mem_singleton.mp q]; exact .head _)) e)))
end
noncomputable def ps0Of : Stmt → Pos
 | .FunctionDef _ _ _ _ _ _ _ _ _ p => p
 | _ => default
noncomputable def de0Of : Stmt → Expr
 | .FunctionDef _ ⟨_, _, _, _, _, _, [d]⟩ _ _ _ _ _ _ _ _ => d
 | _ => .Constant .none 0 default
theorem pd1 : PlainDef (atB 1) (ps0Of (atB 1)) := ⟨by kernel_rfl, fun _ _ => by kernel_rfl, fun _ _ => by kernel_rfl, by kernel_rfl, fun _ _ => by kernel_rfl, fun _ _ _ => by kernel_rfl⟩
theorem pd4 : PlainDef (atB 4) (ps0Of (atB 4)) := ⟨by kernel_rfl, fun _ _ => by kernel_rfl, fun _ _ => by kernel_rfl, by kernel_rfl, fun _ _ => by kernel_rfl, fun _ _ _ => by kernel_rfl⟩
theorem pd17 : PlainDef (atB 17) (ps0Of (atB 17)) := ⟨by kernel_rfl, fun _ _ => by kernel_rfl, fun _ _ => by kernel_rfl, by kernel_rfl, fun _ _ => by kernel_rfl, fun _ _ _ => by kernel_rfl⟩
theorem pd22 : PlainDef (atB 22) (ps0Of (atB 22)) := ⟨by kernel_rfl, fun _ _ => by kernel_rfl, fun _ _ => by kernel_rfl, by kernel_rfl, fun _ _ => by kernel_rfl, fun _ _ _ => by kernel_rfl⟩
theorem pd23 : PlainDef (atB 23) (ps0Of (atB 23)) := ⟨by kernel_rfl, fun _ _ => by kernel_rfl, fun _ _ => by kernel_rfl, by kernel_rfl, fun _ _ => by kernel_rfl, fun _ _ _ => by kernel_rfl⟩
theorem pd25 : PlainDef (atB 25) (ps0Of (atB 25)) := ⟨by kernel_rfl, fun _ _ => by kernel_rfl, fun _ _ => by kernel_rfl, by kernel_rfl, fun _ _ => by kernel_rfl, fun _ _ _ => by kernel_rfl⟩
theorem pd27 : PlainDef (atB 27) (ps0Of (atB 27)) := ⟨by kernel_rfl, fun _ _ => by kernel_rfl, fun _ _ => by kernel_rfl, by kernel_rfl, fun _ _ => by kernel_rfl, fun _ _ _ => by kernel_rfl⟩
theorem pd28 : PlainDef (atB 28) (ps0Of (atB 28)) := ⟨by kernel_rfl, fun _ _ => by kernel_rfl, fun _ _ => by kernel_rfl, by kernel_rfl, fun _ _ => by kernel_rfl, fun _ _ _ => by kernel_rfl⟩
theorem pd29 : PlainDef (atB 29) (ps0Of (atB 29)) := ⟨by kernel_rfl, fun _ _ => by kernel_rfl, fun _ _ => by kernel_rfl, by kernel_rfl, fun _ _ => by kernel_rfl, fun _ _ _ => by kernel_rfl⟩
theorem pd30 : PlainDef (atB 30) (ps0Of (atB 30)) := ⟨by kernel_rfl, fun _ _ => by kernel_rfl, fun _ _ => by kernel_rfl, by kernel_rfl, fun _ _ => by kernel_rfl, fun _ _ _ => by kernel_rfl⟩
theorem pd31 : PlainDef (atB 31) (ps0Of (atB 31)) := ⟨by kernel_rfl, fun _ _ => by kernel_rfl, fun _ _ => by kernel_rfl, by kernel_rfl, fun _ _ => by kernel_rfl, fun _ _ _ => by kernel_rfl⟩
theorem pd32 : PlainDef (atB 32) (ps0Of (atB 32)) := ⟨by kernel_rfl, fun _ _ => by kernel_rfl, fun _ _ => by kernel_rfl, by kernel_rfl, fun _ _ => by kernel_rfl, fun _ _ _ => by kernel_rfl⟩
theorem pd33 : PlainDef (atB 33) (ps0Of (atB 33)) := ⟨by kernel_rfl, fun _ _ => by kernel_rfl, fun _ _ => by kernel_rfl, by kernel_rfl, fun _ _ => by kernel_rfl, fun _ _ _ => by kernel_rfl⟩
theorem pd34 : PlainDef (atB 34) (ps0Of (atB 34)) := ⟨by kernel_rfl, fun _ _ => by kernel_rfl, fun _ _ => by kernel_rfl, by kernel_rfl, fun _ _ => by kernel_rfl, fun _ _ _ => by kernel_rfl⟩
theorem pd35 : PlainDef (atB 35) (ps0Of (atB 35)) := ⟨by kernel_rfl, fun _ _ => by kernel_rfl, fun _ _ => by kernel_rfl, by kernel_rfl, fun _ _ => by kernel_rfl, fun _ _ _ => by kernel_rfl⟩
theorem pd36 : PlainDef (atB 36) (ps0Of (atB 36)) := ⟨by kernel_rfl, fun _ _ => by kernel_rfl, fun _ _ => by kernel_rfl, by kernel_rfl, fun _ _ => by kernel_rfl, fun _ _ _ => by kernel_rfl⟩
theorem pd3 : DefaultDef (atB 3) (de0Of (atB 3)) (ps0Of (atB 3)) := ⟨by kernel_rfl, fun _ _ => by kernel_rfl, fun _ _ => by kernel_rfl, by kernel_rfl, fun _ _ => by kernel_rfl, fun _ _ _ => by kernel_rfl⟩
theorem pd18 : DefaultDef (atB 18) (de0Of (atB 18)) (ps0Of (atB 18)) := ⟨by kernel_rfl, fun _ _ => by kernel_rfl, fun _ _ => by kernel_rfl, by kernel_rfl, fun _ _ => by kernel_rfl, fun _ _ _ => by kernel_rfl⟩
noncomputable def patL : List (Nat × Pos) := match atB 5 with
 | .Assign _ (.Call _ [_, _, .List es _, _, _, _] _ _) _ => es.map fun
   | .Constant (.int i) _ p => (i.toNat, p)
   | _ => (0, default)
 | _ => []
section
variable {prog : Program} {w : World} {A : Around} {E : Value → Shared → Prop} {s s' : Shared} {c P fr bm : Addr} {mb : PySem.Str → Option Value} {l : List (PySem.Str × Option Value)} {n z : Nat} {K : Heap → Prop}
theorem k_obj {Q : Flow → Shared → Prop} (Z : TK s s' c P l n z K) (T : TW s bm mb) (hc : l.lookup (Str.ofString "object") = none)
   (h : ∀ a s₁, TK s s₁ c P ((Str.ofString "_initial_missing", some (.ref a)) :: l) n z K → Q .next s₁) :
   wpAny (model prog w) A (exec (atB 2) (envM c fr)) Q E s' := by
 with_unfolding_all show wpAny _ _ (exec (.Assign [.Name _ _] (.Call (.Name _ _) _ _ _) _) _) _ _ _
 refine el_EA (Z.ts) ?_; intro ps X hn
 exists k_assign Z T.lt (by trivial) (fun _ => (by trivial)) ?_
 exists wpAny_Call_NameR ?_
 exists t_bi X T.bn (by trivial) (by trivial) (by decide) ((upL_none hc).trans (T.no "object" (by decide))) PyProof.Rows.boot_object ?_
 refine PySem.callWith_type rfl (wpAny_of_eq (a := ⟨[], []⟩) rfl ?_)
 exact call_object fun a s₁ u _ _ => ⟨u, fun s₂ Z₂ _ => h a s₂ Z₂⟩
theorem k_compile {Q : Flow → Shared → Prop} {md : PySem.Str → Option Value} {Mo D : Addr} (Z : TK s s' c P l n z K) (T : TW s bm mb) (hc : l.lookup (Str.ofString "_sre") = none) (hs : s.heap.nsMap mainGlobals (Str.ofString "_sre") = some (.ref Mo)) (hm : Flt.IsCMod s.heap Mo D md) (hMo : Mo ≠ mainGlobals) (hD : D ≠ mainGlobals) (hmd : md (Str.ofString "compile") = some (.builtin "_sre.compile"))
   (h : ∀ a T' o oT s₁, TK s s₁ c P ((Str.ofString "_twin_re_1", some (.ref a)) :: l) n s₁.heap.objs.size (fun h => (h.get? a = some o ∧ h.get? T' = some oT) ∧ K h) → (∀ h : Heap, h.get? a = some o → h.get? T' = some oT → IsPat h a) → Q .next s₁) :
   wpAny (model prog w) A (exec (atB 5) (envM c fr)) Q E s' := by
 with_unfolding_all show wpAny _ _ (exec (.Assign [.Name _ _] (.Call (.Attribute (.Name _ _) _ _) _ _ _) _) _) _ _ _
 refine el_EA (Z.ts) ?_; intro ps X hn
 exists k_assign Z T.lt (by trivial) (fun _ => (by trivial)) ?_
 have hm' : Flt.IsCMod s'.heap Mo D md := ⟨X.keep _ _ (fun q => hMo (List.mem_singleton.mp q)) hm.1, hm.2.at fun o e => X.keep _ _ (fun q => hD (List.mem_singleton.mp q)) e⟩
 with_unfolding_all refine t_compile (l := patL) X (by trivial) (by trivial) ((upL_none hc).trans hs) hm' hmd (by trivial) (by trivial) (by decide +kernel) T.sys fun a s₁ u ha hp => ⟨u, fun s₂ Z₂ k₂ => ?_⟩
 refine el_EEEEEEAAAAAAAAA hp ?_; try clear hp; intro o vs T' oT cs k e1 e2 e3 e4 e5 e6 e7 e8 e9 e10
 refine el_EA ((Z.up u).ts) ?_; intro ps₁ X₁ _
 have na : a ∉ [mainGlobals, P] := Z.ne T.lt ha
 have nT : T' ∉ [mainGlobals, P] := fun q => by
   rcases List.mem_cons.mp q with rfl | q
   · refine el_EEEAA (X₁.ns) ?_; intro o es ep d1 d2 _
     rw [e8] at d1; cases d1; rw [e9] at d2; cases d2
   · have d := X₁.code.2.2
     rw [← List.mem_singleton.mp q, e8] at d; cases d; cases e9
 have no1 : ∀ b : Addr, b ∉ [mainGlobals, P] → b ∉ [mainGlobals] := fun b hb q => hb (by rw [List.mem_singleton.mp q]; exact .head _)
 have f1 := k₂ _ _ (no1 _ na) e1
 have f2 := k₂ _ _ (no1 _ nT) e8
 exact h a T' o oT s₂ (Z₂.add (K' := fun h => h.get? a = some o ∧ h.get? T' = some oT) ⟨f1, f2⟩ fun h h' kk H => ⟨kk _ _ (Heap.lt_size f1) na H.1, kk _ _ (Heap.lt_size f2) nT H.2⟩) fun h q1 q2 => ⟨o, vs, T', oT, cs, k, q1, e2, e3, e4, e5, e6, e7, q2, e9, e10⟩
theorem k_hex {Q : Flow → Shared → Prop} (Z : TK s s' c P l n z K) (T : TW s bm mb) (hh : A.handled = none) (hc : l.lookup (Str.ofString "range") = none)
   (h : ∀ D vs s₁, TK s s₁ c P ((Str.ofString "_QUOPRI_MAP", some (.ref D)) :: l) n z K → D ∉ [mainGlobals, P] → s₁.heap.IsList D (List.toArray vs) → vs.length = 256 → (∀ i, i < 256 → ∃ t, vs[i]? = some (.str (hx i) t)) → Q .next s₁) :
   wpAny (model prog w) A (exec (atB 6) (envM c fr)) Q E s' := by
 with_unfolding_all show wpAny _ _ (exec (.Assign [.Name _ _] (.ListComp _ _ _ _) _) _) _ _ _
 refine el_EA (Z.ts) ?_; intro ps X hn
 exists k_assign Z T.lt (by trivial) (fun _ => (by trivial)) ?_
 with_unfolding_all refine t_hexmap X T.bn hh ((upL_none hc).trans (T.no "range" (by decide))) fun D vs s₁ u hD hl hz hv => ⟨u, fun s₂ Z₂ k₂ => ?_⟩
 have nD : D ∉ [mainGlobals, P] := Z.ne T.lt hD
 exact h D vs s₂ Z₂ nD (isList_at hl.isList fun o e => k₂ _ o (fun q => nD (by rw [List.mem_singleton.mp q]; exact .head _)) e) hz hv
end
noncomputable def DV (h : Heap) (k : Nat) (f c P : Addr) : Prop := DefV h f (nmOf (atB k)) (psOf (atB k)) (bdOf (atB k)) (scOf (atB k)) .none c P
theorem DV.lt {h : Heap} {k : Nat} {f c P : Addr} (x : DV h k f c P) : P < h.objs.size := by
 unfold DV at x
 exact Heap.lt_size x.tab.2.2
noncomputable def DD (h : Heap) (k : Nat) (f T₀ : Addr) (v : Value) (c P : Addr) : Prop := DefV h f (nmOf (atB k)) (psOf (atB k)) (bdOf (atB k)) (scOf (atB k)) (.ref T₀) c P ∧ h.get? T₀ = some { cls := .type "tuple", data := .seq [v].toArray }
noncomputable abbrev topNames : List PySem.Str := ["__name__", "cmp_to_key", "_initial_missing", "reduce", "_c3_merge", "_twin_re_1", "_QUOPRI_MAP", "_QUOPRI_HEADER_MAP", "_QUOPRI_BODY_MAP", "ascii_lowercase", "ascii_uppercase", "ascii_letters", "digits", "c",
 "unquote", "header_encode", "_QUOPRI_BODY_ENCODE_MAP", "_unquote_match", "header_decode", "three_way_cmp", "_law_orders", "_law_word", "_law_places", "_law_sign", "_law_written", "_law_pair", "_law_merged", "_law_first", "_law_compare", "law"].map Str.ofString
noncomputable abbrev Lk (l : List (PySem.Str × Option Value)) (x : String) (v : Value) : Prop := l.lookup (Str.ofString x) = some (some v)
noncomputable def strAt (k : Nat) : PySem.Str := match atB k with
 | .Assign _ (.Constant (.str y) _ _) _ => y
 | _ => Str.empty
structure Res (s s₁ : Shared) (l : List (PySem.Str × Option Value)) : Prop where
 ts : ∃ c P ps, TS s s₁ c P (upL l (s.heap.nsMap mainGlobals)) ps
 keys : (l.map Prod.fst).all topNames.contains = true
 tabs : ∃ f2 c2 P2 f36 c36 P36 f37 c37 P37, Lk l "cmp_to_key" (.ref f2) ∧ DV s₁.heap 1 f2 c2 P2 ∧ Lk l "_law_compare" (.ref f36) ∧ DV s₁.heap 35 f36 c36 P36 ∧ Lk l "law" (.ref f37) ∧ DV s₁.heap 36 f37 c37 P37 ∧ P2 ≠ P36 ∧ P2 ≠ P37 ∧ P36 ≠ P37
 red : ∃ f T₀ v c P, Lk l "reduce" (.ref f) ∧ DD s₁.heap 3 f T₀ v c P
 henc : ∃ f T₀ v c P, Lk l "header_encode" (.ref f) ∧ DD s₁.heap 18 f T₀ v c P
 hm : ∃ M vs, Lk l "_QUOPRI_HEADER_MAP" (.ref M) ∧ s₁.heap.IsList M (List.toArray vs) ∧ ∀ c ∈ ring, ∃ tk, vs[c]? = some (.str (sW (signOf c)) tk)
 pat : ∃ a, Lk l "_twin_re_1" (.ref a) ∧ IsPat s₁.heap a
 miss : ∃ I, Lk l "_initial_missing" (.ref I)
 name : ∃ y t, Lk l "__name__" (.str y t)
 d4 : ∃ f c P, Lk l "_c3_merge" (.ref f) ∧ DV s₁.heap 4 f c P
 d17 : ∃ f c P, Lk l "unquote" (.ref f) ∧ DV s₁.heap 17 f c P
 d22 : ∃ f c P, Lk l "_unquote_match" (.ref f) ∧ DV s₁.heap 22 f c P
 d23 : ∃ f c P, Lk l "header_decode" (.ref f) ∧ DV s₁.heap 23 f c P
 d25 : ∃ f c P, Lk l "three_way_cmp" (.ref f) ∧ DV s₁.heap 25 f c P
 d27 : ∃ f c P, Lk l "_law_orders" (.ref f) ∧ DV s₁.heap 27 f c P
 d28 : ∃ f c P, Lk l "_law_word" (.ref f) ∧ DV s₁.heap 28 f c P
 d29 : ∃ f c P, Lk l "_law_places" (.ref f) ∧ DV s₁.heap 29 f c P
 d30 : ∃ f c P, Lk l "_law_sign" (.ref f) ∧ DV s₁.heap 30 f c P
 d31 : ∃ f c P, Lk l "_law_written" (.ref f) ∧ DV s₁.heap 31 f c P
 d32 : ∃ f c P, Lk l "_law_pair" (.ref f) ∧ DV s₁.heap 32 f c P
 d33 : ∃ f c P, Lk l "_law_merged" (.ref f) ∧ DV s₁.heap 33 f c P
 d34 : ∃ f c P, Lk l "_law_first" (.ref f) ∧ DV s₁.heap 34 f c P
section
variable {prog : Program} {w : World} {A : Around} {E : Value → Shared → Prop} {s s₀ : Shared} {c P fr bm : Addr} {mb : PySem.Str → Option Value} {l : List (PySem.Str × Option Value)} {n z : Nat} {K : Heap → Prop} {Q : Flow → Shared → Prop}
theorem walkD1  (Z0 : TK s s₀ c P l n z K) (T : TW s bm mb) (hn : n < (ps0Of (atB 22)).line) (hb : l.lookup (Str.ofString "__builtins__") = none)
   (h : ∀ f22 c22 P22 f23 c23 P23 u24 f25 c25 P25 u26 z s₁, TK s s₁ c P ((Str.ofString "__name__", some (.str (strAt 26) u26)) :: (nmOf (atB 25), some (.ref f25)) :: (Str.ofString "__name__", some (.str (strAt 24) u24)) :: (nmOf (atB 23), some (.ref f23)) :: (nmOf (atB 22), some (.ref f22)) :: l) (ps0Of (atB 25)).line z (fun h => DV h 25 f25 c25 P25 ∧ DV h 23 f23 c23 P23 ∧ DV h 22 f22 c22 P22 ∧ K h) → wpAny (model prog w) A (execs (modB.drop 27) (envM c fr)) Q E s₁) : wpAny (model prog w) A (execs (modB.drop 22) (envM c fr)) Q E s₀ := by
 exists k_cons (k := 22) (by decide) ?_
 exists k_def Z0 T pd22 hn hb fun f22 c22 P22 s1 Z1 _ _ => ⟨rfl, ?_⟩
 exists k_cons (k := 23) (by decide) ?_
 exists k_def Z1 T pd23 (by decide +kernel) (lkN (by kernel_rfl) hb) fun f23 c23 P23 s2 Z2 _ _ => ⟨rfl, ?_⟩
 exists k_cons (k := 24) (by decide) ?_
 with_unfolding_all show wpAny _ _ (exec (.Assign [.Name _ _] (.Constant _ _ _) _) _) _ _ _
 exists k_str Z2 T.lt (by trivial) (fun _ => (by trivial)) fun u24 s3 Z3 _ => ⟨rfl, ?_⟩
 exists k_cons (k := 25) (by decide) ?_
 exists k_def Z3 T pd25 (by decide +kernel) (lkN (by kernel_rfl) (lkN (by kernel_rfl) (lkN (by kernel_rfl) hb))) fun f25 c25 P25 s4 Z4 _ _ => ⟨rfl, ?_⟩
 exists k_cons (k := 26) (by decide) ?_
 with_unfolding_all show wpAny _ _ (exec (.Assign [.Name _ _] (.Constant _ _ _) _) _) _ _ _
 exists k_str Z4 T.lt (by trivial) (fun _ => (by trivial)) fun u26 s5 Z5 _ => ⟨rfl, ?_⟩
 exact h _ _ _ _ _ _ _ _ _ _ _ _ s5 Z5
theorem walkD2  (Z0 : TK s s₀ c P l n z K) (T : TW s bm mb) (hn : n < (ps0Of (atB 27)).line) (hb : l.lookup (Str.ofString "__builtins__") = none)
   (h : ∀ f27 c27 P27 f28 c28 P28 f29 c29 P29 f30 c30 P30 f31 c31 P31 z s₁, TK s s₁ c P ((nmOf (atB 31), some (.ref f31)) :: (nmOf (atB 30), some (.ref f30)) :: (nmOf (atB 29), some (.ref f29)) :: (nmOf (atB 28), some (.ref f28)) :: (nmOf (atB 27), some (.ref f27)) :: l) (ps0Of (atB 31)).line z (fun h => DV h 31 f31 c31 P31 ∧ DV h 30 f30 c30 P30 ∧ DV h 29 f29 c29 P29 ∧ DV h 28 f28 c28 P28 ∧ DV h 27 f27 c27 P27 ∧ K h) → wpAny (model prog w) A (execs (modB.drop 32) (envM c fr)) Q E s₁) : wpAny (model prog w) A (execs (modB.drop 27) (envM c fr)) Q E s₀ := by
 exists k_cons (k := 27) (by decide) ?_
 exists k_def Z0 T pd27 hn hb fun f27 c27 P27 s1 Z1 _ _ => ⟨rfl, ?_⟩
 exists k_cons (k := 28) (by decide) ?_
 exists k_def Z1 T pd28 (by decide +kernel) (lkN (by kernel_rfl) hb) fun f28 c28 P28 s2 Z2 _ _ => ⟨rfl, ?_⟩
 exists k_cons (k := 29) (by decide) ?_
 exists k_def Z2 T pd29 (by decide +kernel) (lkN (by kernel_rfl) (lkN (by kernel_rfl) hb)) fun f29 c29 P29 s3 Z3 _ _ => ⟨rfl, ?_⟩
 exists k_cons (k := 30) (by decide) ?_
 exists k_def Z3 T pd30 (by decide +kernel) (lkN (by kernel_rfl) (lkN (by kernel_rfl) (lkN (by kernel_rfl) hb))) fun f30 c30 P30 s4 Z4 _ _ => ⟨rfl, ?_⟩
 exists k_cons (k := 31) (by decide) ?_
 exists k_def Z4 T pd31 (by decide +kernel) (lkN (by kernel_rfl) (lkN (by kernel_rfl) (lkN (by kernel_rfl) (lkN (by kernel_rfl) hb)))) fun f31 c31 P31 s5 Z5 _ _ => ⟨rfl, ?_⟩
 exact h _ _ _ _ _ _ _ _ _ _ _ _ _ _ _ _ s5 Z5
theorem walkD3 {P1 : Addr} (hP : ∀ h : Heap, K h → P1 < h.objs.size) (Z0 : TK s s₀ c P l n z K) (T : TW s bm mb) (hn : n < (ps0Of (atB 32)).line) (hb : l.lookup (Str.ofString "__builtins__") = none)
   (h : ∀ f32 c32 P32 f33 c33 P33 f34 c34 P34 f35 c35 P35 f36 c36 P36 z s₁, TK s s₁ c P ((nmOf (atB 36), some (.ref f36)) :: (nmOf (atB 35), some (.ref f35)) :: (nmOf (atB 34), some (.ref f34)) :: (nmOf (atB 33), some (.ref f33)) :: (nmOf (atB 32), some (.ref f32)) :: l) (ps0Of (atB 36)).line z (fun h => DV h 36 f36 c36 P36 ∧ DV h 35 f35 c35 P35 ∧ DV h 34 f34 c34 P34 ∧ DV h 33 f33 c33 P33 ∧ DV h 32 f32 c32 P32 ∧ K h) → P1 ≠ P35 → P1 ≠ P36 → P35 ≠ P36 → wpAny (model prog w) A (execs (modB.drop 37) (envM c fr)) Q E s₁) : wpAny (model prog w) A (execs (modB.drop 32) (envM c fr)) Q E s₀ := by
 exists k_cons (k := 32) (by decide) ?_
 exists k_def Z0 T pd32 hn hb fun f32 c32 P32 s1 Z1 _ _ => ⟨rfl, ?_⟩
 exists k_cons (k := 33) (by decide) ?_
 exists k_def Z1 T pd33 (by decide +kernel) (lkN (by kernel_rfl) hb) fun f33 c33 P33 s2 Z2 _ _ => ⟨rfl, ?_⟩
 exists k_cons (k := 34) (by decide) ?_
 exists k_def Z2 T pd34 (by decide +kernel) (lkN (by kernel_rfl) (lkN (by kernel_rfl) hb)) fun f34 c34 P34 s3 Z3 _ _ => ⟨rfl, ?_⟩
 exists k_cons (k := 35) (by decide) ?_
 exists k_def Z3 T pd35 (by decide +kernel) (lkN (by kernel_rfl) (lkN (by kernel_rfl) (lkN (by kernel_rfl) hb))) fun f35 c35 P35 s4 Z4 g35 _ => ⟨rfl, ?_⟩
 exists k_cons (k := 36) (by decide) ?_
 exists k_def Z4 T pd36 (by decide +kernel) (lkN (by kernel_rfl) (lkN (by kernel_rfl) (lkN (by kernel_rfl) (lkN (by kernel_rfl) hb)))) fun f36 c36 P36 s5 Z5 g36 _ => ⟨rfl, ?_⟩
 have q35 : P1 < s3.heap.objs.size := hP _ Z3.k.2.2.2
 have q36 : P1 < s4.heap.objs.size := hP _ Z4.k.2.2.2.2
 exact h _ _ _ _ _ _ _ _ _ _ _ _ _ _ _ _ s5 Z5 (Nat.ne_of_lt (Nat.lt_of_lt_of_le q35 g35)) (Nat.ne_of_lt (Nat.lt_of_lt_of_le q36 g36)) (Nat.ne_of_lt (Nat.lt_of_lt_of_le (Heap.lt_size Z4.k.1.tab.2.2) g36))
theorem walkA {md : PySem.Str → Option Value} {Mo D : Addr} (X : TS s s₀ c P (s.heap.nsMap mainGlobals) #[]) (T : TW s bm mb) (hh : A.handled = none) (hs : s.heap.nsMap mainGlobals (Str.ofString "_sre") = some (.ref Mo)) (hm : Flt.IsCMod s.heap Mo D md) (hMo : Mo ≠ mainGlobals) (hD : D ≠ mainGlobals)
   (hmd : md (Str.ofString "compile") = some (.builtin "_sre.compile")) (h : ∀ u0 f1 c1 P1 I f3 c3 P3 T3 w3 f4 c4 P4 a T' o oT D vs n z s₁, TK s s₁ c P ((Str.ofString "_QUOPRI_MAP", some (.ref D)) :: (Str.ofString "_twin_re_1", some (.ref a)) :: (nmOf (atB 4), some (.ref f4)) :: (nmOf (atB 3), some (.ref f3)) :: (Str.ofString "_initial_missing", some (.ref I)) :: (nmOf (atB 1), some (.ref f1)) :: (Str.ofString "__name__", some (.str (strAt 0) u0)) :: []) n z
       (fun h => (h.get? a = some o ∧ h.get? T' = some oT) ∧ DV h 4 f4 c4 P4 ∧ DD h 3 f3 T3 w3 c3 P3 ∧ DV h 1 f1 c1 P1 ∧ True) → n < (ps0Of (atB 17)).line → (∀ h : Heap, h.get? a = some o → h.get? T' = some oT → IsPat h a) → D ∉ [mainGlobals, P] → s₁.heap.IsList D (List.toArray vs) → vs.length = 256 → (∀ i, i < 256 → ∃ t, vs[i]? = some (.str (hx i) t)) → wpAny (model prog w) A (execs (modB.drop 7) (envM c fr)) Q E s₁) : wpAny (model prog w) A (execs modB (envM c fr)) Q E s₀ := by
 have Z0 : TK s s₀ c P [] 0 s₀.heap.objs.size (fun _ => True) := ⟨⟨#[], X, Ln.nil⟩, trivial, fun _ _ _ _ => trivial, Nat.le_refl _⟩
 show wpAny _ _ (execs (modB.drop 0) _) _ _ _
 exists k_cons (k := 0) (by decide) ?_
 with_unfolding_all show wpAny _ _ (exec (.Assign [.Name _ _] (.Constant _ _ _) _) _) _ _ _
 exists k_str Z0 T.lt (by trivial) (fun _ => (by trivial)) fun u0 s1 Z1 _ => ⟨rfl, ?_⟩
 exists k_cons (k := 1) (by decide) ?_
 exists k_def Z1 T pd1 (by decide +kernel) (by kernel_rfl) fun f1 c1 P1 s2 Z2 _ _ => ⟨rfl, ?_⟩
 exists k_cons (k := 2) (by decide) ?_
 exists k_obj Z2 T (by kernel_rfl) fun I s3 Z3 => ⟨rfl, ?_⟩
 exists k_cons (k := 3) (by decide) ?_
 exists k_defd Z3 T pd3 (by decide +kernel) (by kernel_rfl) (fun Q' hQ' => ?_) fun f3 c3 P3 T3 w3 s4 Z4 => ⟨rfl, ?_⟩
 · refine el_EA (Z3.ts) ?_; intro ps Y _
   with_unfolding_all show wpAny _ _ (eval (.Name _ _) _) _ _ _
   exact t_name (v := .ref I) Y (by trivial) (by trivial) (upL_some (by kernel_rfl)) (hQ' _ _ (Up.refl _))
 exists k_cons (k := 4) (by decide) ?_
 exists k_def Z4 T pd4 (by decide +kernel) (by kernel_rfl) fun f4 c4 P4 s5 Z5 _ _ => ⟨rfl, ?_⟩
 exists k_cons (k := 5) (by decide) ?_
 exists k_compile Z5 T (by kernel_rfl) hs hm hMo hD hmd fun a T' o oT s6 Z6 hpat => ⟨rfl, ?_⟩
 exists k_cons (k := 6) (by decide) ?_
 exists k_hex Z6 T hh (by kernel_rfl) fun D vs s7 Z7 hDn hl hz hv => ⟨rfl, ?_⟩
 exact h _ _ _ _ _ _ _ _ _ _ _ _ _ _ _ _ _ _ _ _ _ s7 Z7 (by decide +kernel) hpat hDn hl hz hv
theorem walkC (Z0 : TK s s₀ c P l n z K) (T : TW s bm mb) (hn : n < (ps0Of (atB 17)).line) (hb : l.lookup (Str.ofString "__builtins__") = none)
   (h : ∀ f17 c17 P17 f18 c18 P18 T18 w18 s₁, TK s s₁ c P ((nmOf (atB 18), some (.ref f18)) :: (nmOf (atB 17), some (.ref f17)) :: l) (ps0Of (atB 18)).line s₁.heap.objs.size (fun h => DD h 18 f18 T18 w18 c18 P18 ∧ DV h 17 f17 c17 P17 ∧ K h) → wpAny (model prog w) A (execs (modB.drop 19) (envM c fr)) Q E s₁) : wpAny (model prog w) A (execs (modB.drop 17) (envM c fr)) Q E s₀ := by
 exists k_cons (k := 17) (by decide) ?_
 exists k_def Z0 T pd17 hn hb fun f17 c17 P17 s1 Z1 _ _ => ⟨rfl, ?_⟩
 exists k_cons (k := 18) (by decide) ?_
 exists k_defd Z1 T pd18 (by decide +kernel) (lkN (by kernel_rfl) hb) (fun Q' hQ' => ?_) fun f18 c18 P18 T18 w18 s2 Z2 => ⟨rfl, ?_⟩
 · with_unfolding_all show wpAny _ _ (eval (.Constant _ _ _) _) _ _ _
   exact wpAny_Constant_str (hQ' _ _ (Up.toks _))
 exact h _ _ _ _ _ _ _ _ s2 Z2
theorem top_walk {md : PySem.Str → Option Value} {Mo D : Addr} (X : TS s s₀ c P (s.heap.nsMap mainGlobals) #[]) (T : TW s bm mb) (hh : A.handled = none) (hs : s.heap.nsMap mainGlobals (Str.ofString "_sre") = some (.ref Mo)) (hm : Flt.IsCMod s.heap Mo D md) (hMo : Mo ≠ mainGlobals) (hD : D ≠ mainGlobals)
   (hmd : md (Str.ofString "compile") = some (.builtin "_sre.compile")) (h : ∀ s₁ l, Res s s₁ l → Q .next s₁) : wpAny (model prog w) A (execs modB (envM c fr)) Q E s₀ := by
 exists walkA X T hh hs hm hMo hD hmd fun u0 f1 c1 P1 I f3 c3 P3 T3 w3 f4 c4 P4 a T' o oT D vs n z s1 Z1 hn hpat hDn hl hz hv => ?_
 exists blockB Z1 T hh (by kernel_rfl) hl hz hv (by kernel_rfl) (by kernel_rfl) hDn fun t1 t2 t3 t4 t5 v1 v2 M M₂ vs₁ vs₂ s2 Z2 hring hz₂ => ?_
 exists walkC Z2 T hn (by kernel_rfl) fun f17 c17 P17 f18 c18 P18 T18 w18 s3 Z3 => ?_
 exists blockE Z3 T hh (by kernel_rfl) Z3.k.2.2.1.2 hz₂ (by kernel_rfl) fun v3 M₃ s4 Z4 => ?_
 exists walkD1 Z4 T (by decide +kernel) (by kernel_rfl) fun f22 c22 P22 f23 c23 P23 u24 f25 c25 P25 u26 z5 s5 Z5 => ?_
 exists walkD2 Z5 T (by decide +kernel) (by kernel_rfl) fun f27 c27 P27 f28 c28 P28 f29 c29 P29 f30 c30 P30 f31 c31 P31 z6 s6 Z6 => ?_
 exists walkD3 (P1 := P1) (fun h H => DV.lt H.2.2.2.2.2.2.2.2.2.2.2.2.2.2.1) Z6 T (by decide +kernel) (by kernel_rfl) fun f32 c32 P32 f33 c33 P33 f34 c34 P34 f35 c35 P35 f36 c36 P36 z7 s7 Z7 q1 q2 q3 => ?_
 refine el_AAAAAAAAAAAAAAAAAAAA (Z7.k) ?_; intro h36 h35 h34 h33 h32 h31 h30 h29 h28 h27 h25 h23 h22 h18 h17 hL hP h4 h3 h1 _
 refine el_EA (Z7.ts) ?_; intro ps Y _
 rw [List.drop_of_length_le (by rw [modB_len]; exact Nat.le_refl _)]
 have R : Res s s7 _ := { ts := ⟨c, P, ps, Y⟩, keys := (by kernel_rfl), tabs := ⟨f1, c1, P1, f35, c35, P35, f36, c36, P36, (by kernel_rfl), h1, (by kernel_rfl), h35, (by kernel_rfl), h36, q1, q2, q3⟩, red := ⟨f3, T3, w3, c3, P3, (by kernel_rfl), h3⟩, henc := ⟨f18, T18, w18, c18, P18, (by kernel_rfl), h18⟩, hm := ⟨M, vs₁, (by kernel_rfl), hL.1, hring⟩, pat := ⟨a, (by kernel_rfl), hpat _ hP.1 hP.2⟩, miss := ⟨I, (by kernel_rfl)⟩, name := ⟨strAt 26, u26, (by kernel_rfl)⟩, d4 := ⟨f4, c4, P4, (by kernel_rfl), h4⟩, d17 := ⟨f17, c17, P17, (by kernel_rfl), h17⟩, d22 := ⟨f22, c22, P22, (by kernel_rfl), h22⟩, d23 := ⟨f23, c23, P23, (by kernel_rfl), h23⟩, d25 := ⟨f25, c25, P25, (by kernel_rfl), h25⟩, d27 := ⟨f27, c27, P27, (by kernel_rfl), h27⟩, d28 := ⟨f28, c28, P28, (by kernel_rfl), h28⟩, d29 := ⟨f29, c29, P29, (by kernel_rfl), h29⟩, d30 := ⟨f30, c30, P30, (by kernel_rfl), h30⟩, d31 := ⟨f31, c31, P31, (by kernel_rfl), h31⟩, d32 := ⟨f32, c32, P32, (by kernel_rfl), h32⟩, d33 := ⟨f33, c33, P33, (by kernel_rfl), h33⟩, d34 := ⟨f34, c34, P34, (by kernel_rfl), h34⟩ }
 exact wpAny_execs_nil (h _ _ R)
end
theorem s0_parts {s : Shared} (S : S0 s) : s.heap.isNs mainGlobals = true ∧ s.heap.isNs builtinsNs = true ∧ s.heap.isNs cStatics = true ∧ s.gens = #[] ∧ s.heap.objs.size = 28 ∧ s.heap.bmainOk = true ∧ s.heap.accountedOkI [Str.ofString "_sre"] = true := by
 have h := S.o
 simp only [obs0, Bool.and_eq_true, beq_iff_eq] at h
 refine el_A h ?_; try clear h; intro zz0 h8
 refine el_A zz0 ?_; clear zz0; intro zz1 h7
 refine el_A zz1 ?_; clear zz1; intro zz2 h6
 refine el_A zz2 ?_; clear zz2; intro zz3 h5
 refine el_A zz3 ?_; clear zz3; intro zz4 h4
 refine el_A zz4 ?_; clear zz4; intro zz5 h3
 refine el_A zz5 ?_; clear zz5; intro h1 h2
 exact ⟨h1, h2, h3, Array.eq_empty_of_size_eq_zero h4, h5, h7, h8⟩
theorem tw_of {s : Shared} (S : S0 s) : ∃ bm, TW s bm (s.heap.nsMap builtinsNs) := by
 refine el_AAAAAA (s0_parts S) ?_; intro h1 h2 h3 h4 h5 h6 h7
 refine el_EEAAAAA (Heap.bmainOk_spec h6) ?_; intro bm ob b1 b2 b3 b4 b5 b6
 refine ⟨bm, by rw [h5]; decide, ⟨⟨ob, b3, b4, b5, b6⟩, b2, fun q => ?_⟩, ⟨.of_isNs h2, fun x hx => Heap.of_bltView h2 S.b x hx⟩, b1, fun x hx => Heap.nsMap_none ?_, by rw [h5]; decide⟩
 · refine el_EEEAA (Heap.Ns.of_isNs h1) ?_; intro o es ep e1 e2 _
   rw [← q, b3] at e1
   cases e1
   rw [b6] at e2
   cases e2
 · rw [S.k]
   have all : ∀ x ∈ noNames, Str.ofString x ∉ mainNames := by decide +kernel
   exact all x hx
theorem ran_of {s₀ : Shared} (S : S0 s₀) (hz : s₀.asleep) (w : World) : ∃ s₁ l, ((∃ n t, schedN (denote table) pwL w n (.single s₀ (topStub pwL)) = .running (.single s₁ t) ∧ through t = true) ∧ s₁.heap.life = s₀.heap.life) ∧ Res s₀ s₁ l ∧ s₁.gens = #[] := by
 refine el_AAAAAA (s0_parts S) ?_; intro h1 h2 h3 h4 h5 h6 h7
 refine el_E (tw_of S) ?_; intro bm T
 have hn : s₀.heap.Ns1 mainGlobals (s₀.heap.nsMap mainGlobals) := ns1_of_keys h1 (by rw [S.k]; decide +kernel)
 obtain ⟨m, t₁, s₁, s', a, b, e, ⟨l, R, hg⟩, hl⟩ := wp_through (p := pwL) (w := w) (t := (topStub pwL).cur) (R := fun s' => ∃ l, Res s₀ s' l ∧ s'.gens = #[]) hz (enter_top hn fun s' c P fr X => by
   refine top_walk X T rfl S.r1 ⟨S.r2, .of_isNs S.r3⟩ (by decide) (by decide) S.r4 fun s₁ l R => ⟨rfl, .none, rfl, ⟨l, R, ?_⟩, ?_⟩
   all_goals
     refine el_EEE (R.ts) ?_; intro c P ps X
     have hg : s₁.gens = #[] := X.st.gens.trans h4
     first
       | exact hg
       | (rw [hg]; unfold leftWithCleanup; simp))
 obtain rfl := Shared.eq_of_forget_eq e hg
 exact ⟨s₁, l, ⟨⟨m, t₁, a, b⟩, hl⟩, R, hg⟩
theorem mods_is : importedModules pwL.main.body = [Str.ofString "_sre"] := by kernel_rfl
theorem names_in : ∀ x ∈ topNames ++ mainNames, x ∈ startupNames ∨ x ∈ pwL.boundNames := by decide +kernel
theorem laid_out : ∀ x ∈ laidNames, x ∉ topNames := by decide +kernel
theorem Res.key {s s₁ : Shared} {l : List (PySem.Str × Option Value)} (R : Res s s₁ l) {x : PySem.Str} (hx : x ∉ topNames) : l.lookup x = none := by
 cases e : l.lookup x with
 | none => rfl
 | some v =>
   have hk := R.keys
   rw [List.all_eq_true] at hk
   have hm : x ∈ l.map Prod.fst := by
     clear hk R
     induction l with
     | nil => cases e
     | cons p l ih =>
       obtain ⟨k, u⟩ := p
       rw [List.lookup_cons] at e
       by_cases q : x == k
       · rw [beq_iff_eq.mp q]; exact .head _
       · rw [Bool.not_eq_true] at q
         rw [q] at e
         exact .tail _ (ih e)
   exact absurd (List.contains_iff_mem.mp (hk x hm)) hx
theorem topRan_of {s₀ s₁ : Shared} {l : List (PySem.Str × Option Value)} (S : S0 s₀) (w : World) (R : Res s₀ s₁ l) (hr : (∃ n t, schedN (denote table) pwL w n (.single s₀ (topStub pwL)) = .running (.single s₁ t) ∧ through t = true) ∧ s₁.heap.life = s₀.heap.life) (hg : s₁.gens = #[]) : TopRan pwL w s₀ s₁ := by
 refine el_AAAAAA (s0_parts S) ?_; intro h1 h2 h3 h4 h5 h6 h7
 refine el_EEE (R.ts) ?_; intro c P ps X
 have hn1 := X.ns.ns
 have g1 : ∀ x, globalOf s₁.heap x = upL l (s₀.heap.nsMap mainGlobals) x := fun x => Claim2Try.globalOf_of_ns hn1 x
 have g0 : ∀ x, globalOf s₀.heap x = s₀.heap.nsMap mainGlobals x := fun x => Pin.globalOf_eq h1 x
 have ks : ∀ {a : Addr} {o : Obj}, a ≠ mainGlobals → s₀.heap.get? a = some o → s₁.heap.get? a = some o := fun ha e => X.keep _ _ (fun q => ha (List.mem_singleton.mp q)) e
 have st : staticOf s₁.heap = staticOf s₀.heap := by
   refine el_EEEA (Heap.Ns.of_isNs h3) ?_; intro o es ep e _
   funext k
   unfold staticOf
   rw [e, ks (by decide) e]
 have bt : builtinOf s₁.heap = builtinOf s₀.heap := by
   refine el_EEEA (Heap.Ns.of_isNs h2) ?_; intro o es ep e _
   funext k
   unfold builtinOf
   rw [e, ks (by decide) e]
 refine el_EEAAAAA (Heap.bmainOk_spec h6) ?_; intro bm ob b1 b2 b3 b4 b5 b6
 have hbm : bm ≠ mainGlobals := fun q => by
   refine el_EEEAA (Heap.Ns.of_isNs h1) ?_; intro o es ep e1 e2 _
   rw [← q, b3] at e1
   cases e1
   rw [b6] at e2
   cases e2
 refine ⟨hr.1, hr.2, Shared.rest_eq X.st.os, fun b o hb hn => X.keep b o (fun q => hn (.inl (List.mem_singleton.mp q))) hb, ?_, fun key => .inl (by rw [st]), ?_, ?_, ?_, ?_, ?_, ?_⟩
 · rw [mods_is]
   have := Heap.accountedI_of_ok h7
   unfold staticsAccountedI at this ⊢
   rw [st]
   exact this
 · exact Pin.keysAreStrs_of_ns hn1
 · intro x hx
   rw [bt]
   exact (Pin.builtinOf_eq h2 x).trans (Heap.of_bltView h2 S.b x hx)
 · exact ⟨bm, ob, (g1 _).trans ((upL_none (R.key (by decide +kernel))).trans b1), ks hbm b3, b4, b5⟩
 · intro g hm
   rw [hg] at hm
   simp at hm
 · intro x v hv
   refine names_in x ?_
   rw [List.mem_append]
   by_cases q : x ∈ topNames
   · exact .inl q
   · refine .inr ?_
     rw [g1, upL_none (R.key q)] at hv
     rw [← S.k]
     by_cases q' : x ∈ s₀.heap.nsKeys mainGlobals
     · exact q'
     · rw [Heap.nsMap_none q'] at hv; cases hv
 · intro x hx
   rw [g1, g0, upL_none (R.key (laid_out x hx))]
noncomputable def Bare (N : List Addr) (h : Heap) : Prop := ∀ b ∈ N, ∃ vs, h.get? b = some { cls := .none, data := .fields vs }
theorem Bare.out {N : List Addr} {h : Heap} (x : Bare N h) {a : Addr} {o : Obj} (e : h.get? a = some o) (hc : o.cls ≠ .none ∨ ∀ vs, o.data ≠ .fields vs) : a ∉ N := fun q => by
 refine el_E (x a q) ?_; intro vs e'
 rw [e] at e'
 cases e'
 rcases hc with hc | hc
 · exact hc rfl
 · exact hc vs rfl
section
variable {h h' : Heap} {N : List Addr} {k : Nat} {f c P : Addr}
theorem DV.rec {name : PySem.Str} {params : Arguments} {body : List Stmt} {scope : Scope} {dV : Value} (x : DefV h f name params body scope dV c P) (B : Bare N h) (kk : KeepNot N h h') : h'.CodeRec (.ref c) name := by
 refine el_EEEEAA (x.code) ?_; intro c0 o0 vs0 t0 e0 g0 r0
 cases e0
 refine el_A (x.tab.2) ?_; intro zz0 _
 refine el_EEAA zz0 ?_; clear zz0; intro o1 vs1 e1 d1 _
 rw [g0] at e1
 cases e1
 exact ⟨_, o0, vs0, t0, rfl, kk _ _ (B.out g0 (.inl (by rw [d1]; exact fun z => by cases z))) g0, r0⟩
theorem DV.defC (x : DV h k f c P) (B : Bare N h) (kk : KeepNot N h h') {st : Stmt} (e : atB k = st) : DefC h' f st (.ref c) := by
 subst e
 refine el_E (x.fn) ?_; intro pm e
 exact ⟨_, pm, .none, kk _ _ (B.out e (.inl (fun z => by cases z))) e, rfl, DV.rec x B kk⟩
theorem DV.at (x : DV h k f c P) (B : Bare N h) (kk : KeepNot N h h') {st : Stmt} (e : atB k = st) : DefAt h' f st :=
 let ⟨o, pm, doc, a, b, c⟩ := x.defC B kk e; ⟨o, pm, _, doc, a, b, c⟩
theorem DD.at {T₀ : Addr} {v : Value} (x : DD h k f T₀ v c P) (B : Bare N h) (kk : KeepNot N h h') {st : Stmt} (e : atB k = st) : DefAtD h' f st := by
 subst e
 refine el_E (x.1.fn) ?_; intro pm e
 exact ⟨_, pm, _, .none, T₀, _, v, 0, kk _ _ (B.out e (.inl (fun z => by cases z))) e, rfl, DV.rec x.1 B kk, kk _ _ (B.out x.2 (.inl (fun z => by cases z))) x.2, rfl⟩
end
theorem world_of2 {s₀ s₁ : Shared} {l : List (PySem.Str × Option Value)} (S : S0 s₀) (R : Res s₀ s₁ l) : ∃ P T, Tb.Ok T ∧ Lk l "law" (.ref T.al) ∧ DV s₁.heap 36 T.al T.c37 T.P37 ∧ (CodeTab s₁.heap T.c2 T.P2 #[] ∧ CodeTab s₁.heap T.c36 T.P36 #[] ∧ CodeTab s₁.heap T.c37 T.P37 #[]) ∧
   ∀ h', KeepNot T.ps s₁.heap h' → Wx P T (upL l (s₀.heap.nsMap mainGlobals)) (s₀.heap.nsMap builtinsNs) h' := by
 refine el_AAAAAA (s0_parts S) ?_; intro h1 h2 h3 h4 h5 h6 h7
 refine el_E (tw_of S) ?_; intro bm TT
 refine el_EEE (R.ts) ?_; intro ct Pt ps X
 refine el_EEEEEEEEEAAAAAAAA (R.tabs) ?_; intro f2 c2 P2 f36 c36 P36 f37 c37 P37 n2 d2 n36 d36 n37 d37 q1 q2 q3
 refine el_EEEEEA (R.red) ?_; intro fr Tr wr cr Pr nr dr
 refine el_EEEEEA (R.henc) ?_; intro fh Th wh ch Ph nh dh
 refine el_EEAA (R.hm) ?_; intro M vs nM hM hring
 refine el_EA (R.pat) ?_; intro a na hp
 refine el_E (R.miss) ?_; intro I nI
 refine el_EE (R.name) ?_; intro yn tn nn
 refine el_EEEA (R.d4) ?_; intro f4' c4' P4' n4' d4'
 refine el_EEEA (R.d17) ?_; intro f17' c17' P17' n17' d17'
 refine el_EEEA (R.d22) ?_; intro f22' c22' P22' n22' d22'
 refine el_EEEA (R.d23) ?_; intro f23' c23' P23' n23' d23'
 refine el_EEEA (R.d25) ?_; intro f25' c25' P25' n25' d25'
 refine el_EEEA (R.d27) ?_; intro f27' c27' P27' n27' d27'
 refine el_EEEA (R.d28) ?_; intro f28' c28' P28' n28' d28'
 refine el_EEEA (R.d29) ?_; intro f29' c29' P29' n29' d29'
 refine el_EEEA (R.d30) ?_; intro f30' c30' P30' n30' d30'
 refine el_EEEA (R.d31) ?_; intro f31' c31' P31' n31' d31'
 refine el_EEEA (R.d32) ?_; intro f32' c32' P32' n32' d32'
 refine el_EEEA (R.d33) ?_; intro f33' c33' P33' n33' d33'
 refine el_EEEA (R.d34) ?_; intro f34' c34' P34' n34' d34'
 let T : Tb := ⟨c2, P2, c36, P36, c37, P37, f37⟩
 have B : Bare T.ps s₁.heap := fun b hb => by
   rcases List.mem_cons.mp hb with rfl | hb
   · exact ⟨_, d2.tab.2.2⟩
   rcases List.mem_cons.mp hb with rfl | hb
   · exact ⟨_, d36.tab.2.2⟩
   rw [List.mem_singleton.mp hb]
   exact ⟨_, d37.tab.2.2⟩
 have cOut : ∀ {k : Nat} {f c P : Addr}, DV s₁.heap k f c P → c ∉ T.ps := fun d => by
   refine el_A (d.tab.2) ?_; intro zz1 _
   refine el_EEAA zz1 ?_; clear zz1; intro o1 vs1 e1 c1 _
   exact B.out e1 (.inl (by rw [c1]; exact fun z => by cases z))
 refine ⟨{ reduce := fr, hencode := fh, compare := f36, ctk := f2, c3 := f4', unquote := f17', unqm := f22', hdecode := f23', cmp3 := f25', orders := f27', word := f28', places := f29', sign := f30', written := f31', pair := f32', merged := f33', first := f34' }, T, ⟨q1, q2, q3, cOut d2, cOut d36, cOut d37⟩, n37, d37, ⟨d2.tab, d36.tab, d37.tab⟩, fun h' kk => ?_⟩
 have ks : ∀ {b : Addr} {m : PySem.Str → Option Value}, b ≠ mainGlobals → s₀.heap.Ns b m → h'.Ns b m := fun hb hn => by
   refine el_EEEA hn ?_; try clear hn; intro o es ep e r
   have e1 := X.keep _ _ (fun q => hb (List.mem_singleton.mp q)) e
   exact ⟨o, es, ep, kk _ _ (B.out e1 (.inr fun vs q => by rw [r.1] at q; cases q)) e1, r⟩
 have hG : h'.Ns mainGlobals (upL l (s₀.heap.nsMap mainGlobals)) := by
   refine el_EEEA (X.ns.ns) ?_; intro o es ep e r
   exact ⟨o, es, ep, kk _ _ (B.out e (.inr fun vs q => by rw [r.1] at q; cases q)) e, r⟩
 have hB : h'.Ns builtinsNs (s₀.heap.nsMap builtinsNs) := ks (by decide) TT.bn.ns
 have hC : h'.Ns cStatics (s₀.heap.nsMap cStatics) := ks (by decide) (.of_isNs h3)
 have no : ∀ x ∈ noNames, upL l (s₀.heap.nsMap mainGlobals) (Str.ofString x) = none := fun x hx => by
   have all : ∀ x ∈ noNames, Str.ofString x ∉ topNames := by decide +kernel
   rw [upL_none (R.key (all x hx))]
   exact TT.no x hx
 refine el_EAAA (TT.mo.o) ?_; intro ob b1 b2 b3 b4
 have b1' := X.keep _ _ (fun q => TT.mo.b2 (List.mem_singleton.mp q)) b1
 have b1h := kk _ _ (B.out b1' (.inl (by rw [b2]; exact fun z => by cases z))) b1'
 refine { w := ?_, dred := dr.at B kk (by kernel_rfl), dhenc := dh.at B kk (by kernel_rfl), hmap := ⟨M, vs, upL_some nM, ?_, hring⟩, pat := ⟨a, upL_some na, ?_⟩, fn := ?_, nt := ⟨_, hC, Heap.nsMap_none (S.out (by decide +kernel))⟩,
          bAt := fun Q hQ => ⟨bm, ob, (upL_none (R.key (by decide +kernel))).trans TT.nm, TT.mo.b1, TT.mo.b2, fun q => ?_, b1h, b2, b3, b4⟩, d2 := d2.defC B kk (by kernel_rfl), d36 := d36.defC B kk (by kernel_rfl), d37 := d37.defC B kk (by kernel_rfl), gmiss := ⟨I, upL_some nI⟩, gname := ⟨_, upL_some nn, yn, tn, rfl⟩ }
 · exact { g := hG, b := hB, bi := TT.bn.bi, lim := ⟨_, hC, Heap.nsMap_none (S.out (by decide +kernel))⟩, no := no, dcompare := d36.at B kk (by kernel_rfl), dctk := d2.at B kk (by kernel_rfl), gcompare := upL_some n36, gctk := upL_some n2, greduce := upL_some nr, ghenc := upL_some nh, dc3 := d4'.at B kk (by kernel_rfl), gc3 := upL_some n4', dunq := d17'.at B kk (by kernel_rfl), gunq := upL_some n17', dunqm := d22'.at B kk (by kernel_rfl), gunqm := upL_some n22', dhdec := d23'.at B kk (by kernel_rfl), ghdec := upL_some n23', dcmp3 := d25'.at B kk (by kernel_rfl), gcmp3 := upL_some n25', dorders := d27'.at B kk (by kernel_rfl), gorders := upL_some n27', dword := d28'.at B kk (by kernel_rfl), gword := upL_some n28', dplaces := d29'.at B kk (by kernel_rfl), gplaces := upL_some n29', dsign := d30'.at B kk (by kernel_rfl), gsign := upL_some n30', dwritten := d31'.at B kk (by kernel_rfl), gwritten := upL_some n31', dpair := d32'.at B kk (by kernel_rfl), gpair := upL_some n32', dmerged := d33'.at B kk (by kernel_rfl), gmerged := upL_some n33', dfirst := d34'.at B kk (by kernel_rfl), gfirst := upL_some n34' }
 · refine el_EA hM ?_; try clear hM; intro o e r
   exact ⟨o, kk _ _ (B.out e (.inl (by rw [r.1]; exact fun z => by cases z))) e, r⟩
 · refine el_EEEEEEAAAAAAAAA hp ?_; try clear hp; intro o vs T' oT cs k e1 e2 e3 e4 e5 e6 e7 e8 e9 e10
   exact ⟨o, vs, T', oT, cs, k, kk _ _ (B.out e1 (.inl (by rw [e2]; exact fun z => by cases z))) e1, e2, e3, e4, e5, e6, e7, kk _ _ (B.out e8 (.inr fun vs q => by rw [e9] at q; cases q)) e8, e9, e10⟩
 · refine el_E (d22'.fn) ?_; intro pm e
   exact ⟨_, kk _ _ (B.out e (.inl (fun z => by cases z))) e, rfl⟩
 · have := hQ _ (q ▸ b1h)
   rw [b2] at this
   cases this
theorem fin_law2 {T : Tb} {c : ClaimW} {cl : PySem.Str → Option Addr} {mean : ExcName → Option Value} {args : List WData} {s₁ s' : Shared} (t : CodeTab s₁.heap T.c2 T.P2 #[] ∧ CodeTab s₁.heap T.c36 T.P36 #[] ∧ CodeTab s₁.heap T.c37 T.P37 #[])
   (sm : Sm s₁ s') (k : KeepNot T.ps s₁.heap s'.heap) (ht : ∀ b ∈ T.ps, IsTab s'.heap b) (hg : s₁.gens = #[]) (hr : ∀ cls, c.raises args cls = false) (hp : c.post args (.bool true) args = true) : GoodWG c cl mean args s₁ (.ok (.ret (.bool true))) s' := by
 refine ⟨.inl ⟨_, _, [], rfl, hr, ReadsW.bool true, hp, fun _ => ⟨List.nodup_nil, fun _ hm => (nomatch hm)⟩⟩, ?_, sm.os, .of_eq (sm.gens.trans hg)⟩
 have tb : ∀ b ∈ T.ps, isCodeTable s₁.heap b ∧ s₁.heap.get? b = some { cls := .none, data := .fields #[] } := fun b hb => by
   rcases List.mem_cons.mp hb with rfl | hb
   · exact ⟨t.1.2.isCodeTable, t.1.2.2⟩
   rcases List.mem_cons.mp hb with rfl | hb
   · exact ⟨t.2.1.2.isCodeTable, t.2.1.2.2⟩
   rw [List.mem_singleton.mp hb]
   exact ⟨t.2.2.2.isCodeTable, t.2.2.2.2⟩
 constructor
 · intro b o e
   by_cases hb : b ∈ T.ps
   · refine el_A (tb b hb) ?_; intro ic e1
     rw [e] at e1
     cases e1
     refine el_E (ht b hb) ?_; intro ps e2
     exact .inr (.inl ⟨ic, rfl, #[], ps, rfl, by rw [e2, Array.empty_append]⟩)
   · exact .inl (k b o hb e)
 · intro b o e
   by_cases hb : b ∈ T.ps
   · refine el_E (ht b hb) ?_; intro ps e2
     exact ⟨_, e2⟩
   · exact ⟨o, k b o hb e⟩
theorem law_end2 {w : World} {s₁ s₂ : Shared} {P : Adr} {T : Tb} {mg mb : PySem.Str → Option Value} {l : Addr} {vs : List Value} {ns : List Int} {c : ClaimW} {cl : PySem.Str → Option Addr} {mean : ExcName → Option Value} {args : List WData} (ok : T.Ok)
   (t : CodeTab s₁.heap T.c2 T.P2 #[] ∧ CodeTab s₁.heap T.c36 T.P36 #[] ∧ CodeTab s₁.heap T.c37 T.P37 #[]) (W : ∀ h', KeepNot T.ps s₁.heap h' → Wx P T mg mb h') (k : ∀ b o, s₁.heap.get? b = some o → s₂.heap.get? b = some o) (hg : s₂.gens = #[])
   (hl : s₂.heap.IsList l (List.toArray vs)) (hi : IntsAre vs ns) (hz : ¬ ((63 : Int) < (ns.length : Int))) (hr : ∀ cls, c.raises args cls = false) (hp : c.post args (.bool true) args = true) :
   wpAny (model pwL w) callerA (call (.ref T.al) [.ref l]) (fun v s' => GoodWG c cl mean args s₂ (.ok (.ret v)) s') (fun e s' => GoodWG c cl mean args s₂ (.error e) s') s₂ := by
 have t' : CodeTab s₂.heap T.c2 T.P2 #[] ∧ CodeTab s₂.heap T.c36 T.P36 #[] ∧ CodeTab s₂.heap T.c37 T.P37 #[] := ⟨t.1.keeps k, t.2.1.keeps k, t.2.2.keeps k⟩
 refine wpAny_call (codeAny_mono (c_law (P := P) (T := T) (by decide) rfl (by decide) rfl (fun h' kk => W h' fun b o hb e => kk b o hb (k b o e)) ok t'.1 t'.2.1 t'.2.2 hl hi (by lia)) fun r s' H => ?_)
 refine el_AAA H ?_; try clear H; intro zz0 sm kk ht
 obtain rfl := zz0
 exact fin_law2 t' sm kk ht hg hr hp
theorem law_def : pwL.theDef (nmOf (atB 36)) = some (psOf (atB 36), bdOf (atB 36), scOf (atB 36)) := by kernel_rfl
theorem law_name : nmOf (atB 36) = Str.ofString "law" := by kernel_rfl
theorem pinned_law {s₀ s₁ : Shared} {l : List (PySem.Str × Option Value)} (R : Res s₀ s₁ l) {f c P : Addr} (n : Lk l "law" (.ref f)) (d : DV s₁.heap 36 f c P) : isTheDefsW pwL s₁.heap (Str.ofString "law") := by
 refine el_EEE (R.ts) ?_; intro ct Pt ps X
 refine el_E (d.fn) ?_; intro pm e
 refine ⟨f, _, _, psOf (atB 36), bdOf (atB 36), scOf (atB 36), (Claim2Try.globalOf_of_ns X.ns.ns _).trans (upL_some n), e, rfl, law_name ▸ law_def, law_name, law_name, rfl, rfl, rfl, rfl, rfl, rfl, ?_⟩
 exact ⟨.inl ⟨by kernel_rfl, rfl⟩, [], by kernel_rfl, .inl ⟨rfl, rfl⟩⟩
noncomputable abbrev lw := PySem.Challenge.rw_oc0071_01
theorem ok_1 : sreFenced lw.prog.main = true := by kernel_rfl
theorem ok_1b : ((moduleNames lw.prog.main.body).isEmpty || lookedIntoSs (moduleNames lw.prog.main.body) lw.prog.main.body) = true := by kernel_rfl
theorem ok_2 : namesResolve lw.prog = true := by kernel_rfl
theorem ok_3 : (lw.prog.boundNames.all fun n => !worldNames.contains n) = true := by kernel_rfl
theorem ok_4 : noRoadLSs { strict := !(importedModules lw.prog.main.body).all cThrough.contains, foot := none, bare := (["vars", "dir", "locals"] : List PySem.Str).filter (readsOut lw.prog lw.prog.main.body) } lw.prog.main.body = true := by kernel_rfl
theorem ok_5 : (namesMeet lw.prog lw.prog.main.body fun _ n => attrL n) = true := by kernel_rfl
theorem ok_looks : looksOpen lw.prog = true := look_both (look_both (look_both (look_both (look_both ok_1 ok_1b) ok_2) ok_3) ok_4) ok_5
theorem ok_row : lw.row.wellSaid = true := by
 unfold OpenRow.wellSaid OpenRow.partSaid
 iterate 15 refine look_both ?_ ?_
 exact ok_looks
 all_goals kernel_rfl
theorem ok_6 : noRoadLSs { strict := true, foot := some lw.bound', writes := lw.writes, may := lw.may } lw.footing = true := by kernel_rfl
theorem ok_7 : (lw.bound'.all fun n => !builtinNamed n || lw.about == [n] || !lw.reads n) = true := by kernel_rfl
theorem ok_8 : (namesMeet lw.prog lw.footing fun sc n => (!(["type", "isinstance", "issubclass", "getattr", "hasattr"] : List PySem.Str).contains n || sc.names.lookup n == some .globalImplicit) &&
 (lw.may != some n || sc.kind == .module || sc.names.lookup n == some .globalImplicit)) = true := by kernel_rfl
theorem ok_9 : (namesMeet lw.prog lw.above fun _ n => !lw.own.contains n) = true := by kernel_rfl
theorem ok_10 : (namesMeet lw.prog lw.footing fun sc n => sc.kind == .module || sc.names.lookup n != some .globalExplicit) = true := by kernel_rfl
theorem ok_11 : (lw.own.all fun n => !builtinNamed n) = true := by kernel_rfl
theorem ok_all : lw.wellSaid = true := by
 unfold OpenLaw.wellSaid
 iterate 18 refine look_both ?_ ?_
 · exact ok_row
 · kernel_rfl
 · kernel_rfl
 · kernel_rfl
 · kernel_rfl
 · kernel_rfl
 · with_reducible exact ok_6
 · kernel_rfl
 · kernel_rfl
 · kernel_rfl
 · with_reducible exact ok_7
 · kernel_rfl
 · kernel_rfl
 · with_reducible exact ok_8
 · kernel_rfl
 · kernel_rfl
 · with_reducible exact ok_11
 · with_reducible exact ok_9
 · with_reducible exact ok_10
end Mine
open PySem PySem.W PyProof.Rows
set_option maxRecDepth 100000 in
set_option maxHeartbeats 8000000 in
theorem PySem.Challenge.cw_oc0071_01_holds : PySem.Challenge.rw_oc0071_01.Holds := by
 refine holds_law Mine.ok_all fun said => ?_
 have hw : PySem.Challenge.rw_oc0071_01.row.toRowW.promised := by w_witness2
 refine ⟨said, hw, ⟨⟨rfl, rfl, rfl, rfl, rfl, by decide +kernel⟩, by decide +kernel, rfl⟩, hw.witness, fun w => ?_⟩
 obtain ⟨s₀, e, S⟩ := Mine.s0_of w
 obtain ⟨h1, h2⟩ := Mine.opened e
 refine ⟨h1, fun s hs => ?_⟩
 obtain ⟨hf, hz⟩ := h2 s hs
 have hg0 : s₀.gens = #[] := (Mine.s0_parts S).2.2.2.1
 obtain ⟨s₁, l, hr, R, hg⟩ := Mine.ran_of S hz w
 have hT := Mine.topRan_of S w R hr hg
 obtain ⟨P, T, ok, nl, dl, tabs, W⟩ := Mine.world_of2 S R
 refine ⟨s₀, hf, hg0, s₁, hT, fun n hn => ?_, fun x hx => (nomatch hx), fun x hx => (nomatch hx), ?_⟩
 · obtain rfl : n = PySem.Str.ofString "law" := by
     split at hn
     · exact List.mem_singleton.mp hn
     · cases hn
   exact Mine.pinned_law R nl dl
 have hz₁ : s₁.asleep := Shared.asleep_of_life hr.2 hz
 obtain ⟨ct, Pt, ps, X⟩ := R.ts
 refine ClaimW.callFrom_of_specG (c := PySem.Challenge.rw_oc0071_01.row.toRowW.claim) hz₁ hg fun args hpre hlay ord hord => ?_
 obtain ⟨⟨vs, s₂⟩, hlaid⟩ := Option.isSome_iff_exists.mp (layAllW_isSome (P := w.params) (ord := ord) (R := []) (cl := classAt s₁.heap) (fun c hc => (nomatch hc)) args PySem.Challenge.rw_oc0071_01.row.toRowW.args s₁ (pre_splitW hpre).1)
 have keeps := layAllW_keeps _ _ _ hlaid
 have hal := layAllW_rest _ _ _ hlaid
 obtain ⟨as, hrd, hin, hold⟩ := reads_layAllW hord _ _ _ hlaid hlay s₂.heap (fun _ _ e => e)
 have L : Laid [] w s₁ s₂ args vs as := ⟨⟨ord, hord, hlaid⟩, hrd, hin, hold, keeps, hal.1.trans hg, hal.2.2.1⟩
 have hwl := L.well
 have hlo := L.low (Nat.lt_of_lt_of_le (by rw [(Mine.s0_parts S).2.2.2.2.1]; decide) X.size)
 have key : wpAny (model Mine.pwL w) callerA (call (.ref T.al) vs) (fun v s' => GoodWG PySem.Challenge.rw_oc0071_01.row.toRowW.claim (classAt s₁.heap) (ExcName.means s₁.heap) args s₂ (.ok (.ret v)) s') (fun e s' => GoodWG PySem.Challenge.rw_oc0071_01.row.toRowW.claim (classAt s₁.heap) (ExcName.means s₁.heap) args s₂ (.error e) s') s₂ := by
   have hg₂ := L.gens
   clear L hlaid hin hold hal
   wrow_args hpre hlay hrd hwl hlo
   refine Mine.law_end2 ok tabs W keeps hg₂ (by assumption) (by assumption) (by assumption) (fun _ => rfl) ?post
   case post => first | rfl | wrow_post
 obtain ⟨hsame, hu, ha, hap, hm⟩ := frees_parts (r := PySem.Challenge.rw_oc0071_01.row.toRowW) (by rfl)
 have hi := ident_freeW (r := PySem.Challenge.rw_oc0071_01.row.toRowW) hu ha hap
 have hns : s₂.heap.Ns mainGlobals (Mine.upL l (s₀.heap.nsMap mainGlobals)) := X.ns.ns.keeps keeps
 refine ⟨vs, s₂, hlaid, ?_⟩
 refine wpAny_bind (wpAny_nsGet hns ?_)
 have hv : Mine.upL l (s₀.heap.nsMap mainGlobals) PySem.Challenge.rw_oc0071_01.row.name = some (.ref T.al) := Mine.upL_some nl
 rw [hv]
 refine wpAny_bind (wpAny_mono key (fun v s' g => wpAny_pure ⟨_, rfl, ?_⟩) fun e s' g => ?_)
 · have z := g.laid (c := PySem.Challenge.rw_oc0071_01.row.toRowW.claim) hsame rfl hi L
   exact ⟨z.1, z.2.1, z.2.2, fun q => by cases q⟩
 · have z := g.laid (c := PySem.Challenge.rw_oc0071_01.row.toRowW.claim) hsame rfl hi L
   exact ⟨z.1, z.2.1, z.2.2, fun q => by cases q⟩
